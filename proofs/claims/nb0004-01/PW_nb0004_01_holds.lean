import PyProof.Rows.All
import Wide.All
import OpenK.AllK
import Wide.FinOn
import PySem.Challenge.RW_nb0004_01
set_option Elab.async false
set_option linter.unusedVariables false
set_option linter.unusedSectionVars false

/-! ## H1 -/
section
namespace Mine

abbrev T := List Int
structure Tot (lt : T → T → Bool) : Prop where
  irrefl : ∀ a, lt a a = false
  trans : ∀ {a b c}, lt a b = true → lt b c = true → lt a c = true
  total : ∀ {a b}, a ≠ b → lt a b = true ∨ lt b a = true
theorem Tot.flip {lt : T → T → Bool} (h : Tot lt) : Tot (fun a b => lt b a) := ⟨h.irrefl, fun p q => h.trans q p, fun p => (h.total p).symm⟩

section
variable {lt : T → T → Bool}
/-- a is no greater than b -/
def le (lt : T → T → Bool) (a b : T) : Prop := lt b a = false
theorem le_refl (h : Tot lt) (a : T) : le lt a a := h.irrefl a
theorem le_of_lt (h : Tot lt) {a b : T} (q : lt a b = true) : le lt a b := by
  cases e : lt b a with
  | false => exact e
  | true => have := h.trans q e; rw [h.irrefl] at this; cases this
theorem le_trans (h : Tot lt) {a b c : T} (p : le lt a b) (q : le lt b c) : le lt a c := by
  cases e : lt c a with
  | false => exact e
  | true =>
    exfalso
    by_cases hab : a = b
    · subst hab; rw [q] at e; cases e
    · rcases h.total hab with z | z
      · have := h.trans e z; rw [q] at this; cases this
      · rw [p] at z; cases z
theorem le_of_not (h : Tot lt) {a b : T} (q : lt a b = false) : le lt b a := q
theorem le_antisymm (h : Tot lt) {a b : T} (p : le lt a b) (q : le lt b a) : a = b := by
  by_cases e : a = b
  · exact e
  · rcases h.total e with z | z
    · rw [q] at z; cases z
    · rw [p] at z; cases z

def g (xs : List T) (i : Nat) : T := xs.getD i []
theorem g_set {xs : List T} {i j : Nat} {v : T} (hi : i < xs.length) : g (xs.set i v) j = if j = i then v else g xs j := by
  unfold g
  by_cases h : j = i
  · subst h; simp [hi]
  · rw [if_neg h]
    simp [List.getD_eq_getElem?_getD, List.getElem?_set, Ne.symm h]
theorem g_self {xs : List T} {i : Nat} {v : T} (hi : i < xs.length) : g (xs.set i v) i = v := by rw [g_set hi, if_pos rfl]
theorem g_ne {xs : List T} {i j : Nat} {v : T} (hi : i < xs.length) (h : j ≠ i) : g (xs.set i v) j = g xs j := by rw [g_set hi, if_neg h]
theorem g_get {xs : List T} {i : Nat} (hi : i < xs.length) : xs[i]? = some (g xs i) := by simp [g, hi]

theorem swap_perm {xs : List T} {p q : Nat} {x : T} (hp : p < xs.length) (hq : q < xs.length) (hpq : q ≠ p) : ((xs.set p (g xs q)).set q x).Perm (xs.set p x) := by
  have h := List.set_set_perm (as := xs.set p x) (i := p) (j := q) (by simpa using hp) (by simpa using hq)
  have e1 : (xs.set p x)[q]'(by simpa using hq) = g xs q := by
    have := g_ne (v := x) hp hpq
    rw [← this]
    unfold g
    simp [hq]
  have e2 : (xs.set p x)[p]'(by simpa using hp) = x := by simp
  rw [e1, e2] at h
  simpa using h

/-- _siftdown's loop: the hole is at p, x is to be laid -/
noncomputable def sdGo (lt : T → T → Bool) (x : T) (a p : Nat) (xs : List T) : List T :=
  if h : a < p then (if lt x (g xs ((p - 1) / 2)) = true then sdGo lt x a ((p - 1) / 2) (xs.set p (g xs ((p - 1) / 2))) else xs.set p x) else xs.set p x
termination_by p
decreasing_by omega
theorem sdGo_length (x : T) (a p : Nat) (xs : List T) : (sdGo lt x a p xs).length = xs.length := by
  induction p using Nat.strongRecOn generalizing xs with
  | ind p ih =>
    rw [sdGo]
    split
    · split
      · rw [ih _ (by omega)]; simp
      · simp
    · simp
theorem sdGo_perm (x : T) (a p : Nat) (xs : List T) (hp : p < xs.length) : (sdGo lt x a p xs).Perm (xs.set p x) := by
  induction p using Nat.strongRecOn generalizing xs with
  | ind p ih =>
    rw [sdGo]
    split
    · split
      · refine (ih ((p - 1) / 2) (by omega) _ (by simp; omega)).trans ?_
        exact swap_perm hp (by omega) (by omega)
      · exact List.Perm.refl _
    · exact List.Perm.refl _

def par (c : Nat) : Nat := (c - 1) / 2
inductive Under (a : Nat) : Nat → Prop
  | self : Under a a
  | left {p} : Under a p → Under a (2 * p + 1)
  | right {p} : Under a p → Under a (2 * p + 2)
theorem Under.le {a p : Nat} (h : Under a p) : a ≤ p := by
  induction h with
  | self => exact Nat.le_refl _
  | left _ ih => omega
  | right _ ih => omega
theorem Under.up {a p : Nat} (h : Under a p) (hp : a < p) : Under a (par p) := by
  cases h with
  | self => omega
  | @left q h => have e : par (2 * q + 1) = q := (by unfold par; omega); rw [e]; exact h
  | @right q h => have e : par (2 * q + 2) = q := (by unfold par; omega); rw [e]; exact h
theorem under_zero : ∀ p, Under 0 p
  | 0 => .self
  | p + 1 => by
    rcases Nat.mod_two_eq_zero_or_one p with h | h
    · have e : p + 1 = 2 * (p / 2) + 1 := by omega
      rw [e]; exact .left (under_zero (p / 2))
    · have e : p + 1 = 2 * (p / 2) + 2 := by omega
      rw [e]; exact .right (under_zero (p / 2))
termination_by p => p
decreasing_by all_goals omega

def HeapFrom (lt : T → T → Bool) (a : Nat) (xs : List T) : Prop := ∀ c, 0 < c → c < xs.length → a ≤ par c → le lt (g xs (par c)) (g xs c)
/-- a heap but for what touches the hole p -/
def Hole (lt : T → T → Bool) (a p : Nat) (xs : List T) : Prop := ∀ c, 0 < c → c < xs.length → a ≤ par c → par c ≠ p → c ≠ p → le lt (g xs (par c)) (g xs c)
/-- the hole's children are no less than the hole's parent -/
def Over (lt : T → T → Bool) (a p : Nat) (xs : List T) : Prop := a < p → ∀ c, 0 < c → c < xs.length → par c = p → le lt (g xs (par p)) (g xs c)

theorem par_lt {c : Nat} (h : 0 < c) : par c < c := by unfold par; omega

theorem sdGo_heap (H : Tot lt) (x : T) (a p : Nat) (xs : List T) (hp : p < xs.length) (hu : Under a p) (h1 : Hole lt a p xs) (h2 : Over lt a p xs) (h3 : ∀ c, 0 < c → c < xs.length → par c = p → le lt x (g xs c)) : HeapFrom lt a (sdGo lt x a p xs) := by
  induction p using Nat.strongRecOn generalizing xs with
  | ind p ih =>
    have fin : (a < p → le lt (g xs (par p)) x) → HeapFrom lt a (xs.set p x) := fun hx c hc0 hc hac => by
      have hcl : c < xs.length := by simpa using hc
      have := par_lt hc0
      by_cases e1 : c = p
      · subst e1
        rw [g_self hp, g_ne hp (by omega)]
        have : a < c := by omega
        exact hx this
      · rw [g_ne hp e1]
        by_cases e2 : par c = p
        · rw [e2, g_self hp]; exact h3 c hc0 hcl e2
        · rw [g_ne hp e2]; exact h1 c hc0 hcl hac e2 e1
    rw [sdGo]
    by_cases hap : a < p
    · rw [dif_pos hap]
      have hup := hu.up hap
      have haq : a ≤ par p := hup.le
      have hqp : par p < p := par_lt (by omega)
      have hq : par p < xs.length := by omega
      change HeapFrom lt a (if lt x (g xs (par p)) = true then sdGo lt x a (par p) (xs.set p (g xs (par p))) else xs.set p x)
      by_cases hlt : lt x (g xs (par p)) = true
      · rw [if_pos hlt]
        have edge : ∀ c, 0 < c → c < xs.length → par c = par p → c ≠ p → le lt (g xs (par p)) (g xs c) := fun c hc0 hc e1 e2 => by
          have := h1 c hc0 hc (by omega) (by omega) e2
          rwa [e1] at this
        refine ih (par p) hqp _ (by simpa using hq) hup ?_ ?_ ?_
        · intro c hc0 hc hac e1 e2
          have hcl : c < xs.length := by simpa using hc
          by_cases e3 : c = p
          · subst e3; exact absurd rfl e1
          · rw [g_ne hp e3]
            by_cases e4 : par c = p
            · rw [e4, g_self hp]; exact h2 hap c hc0 hcl e4
            · rw [g_ne hp e4]; exact h1 c hc0 hcl hac e4 e3
        · intro haq' c hc0 hc e1
          have hcl : c < xs.length := by simpa using hc
          have hppq : par (par p) < par p := par_lt (by omega)
          have hpp : a ≤ par (par p) := (hup.up haq').le
          have base : le lt (g xs (par (par p))) (g xs (par p)) := h1 (par p) (by omega) hq hpp (by omega) (by omega)
          rw [g_ne (i := p) hp (by omega : par (par p) ≠ p)]
          by_cases e3 : c = p
          · subst e3; rw [g_self hp]; exact base
          · rw [g_ne hp e3]; exact le_trans H base (edge c hc0 hcl e1 e3)
        · intro c hc0 hc e1
          have hcl : c < xs.length := by simpa using hc
          by_cases e3 : c = p
          · subst e3; rw [g_self hp]; exact le_of_lt H hlt
          · rw [g_ne hp e3]; exact le_trans H (le_of_lt H hlt) (edge c hc0 hcl e1 e3)
      · rw [if_neg hlt]
        exact fin fun _ => by
          have : lt x (g xs (par p)) = false := by simpa using hlt
          exact this
    · rw [dif_neg hap]
      exact fin fun h => absurd h hap

/-- the child that _siftup takes -/
def child (lt : T → T → Bool) (n p : Nat) (xs : List T) : Nat := if 2 * p + 2 < n ∧ lt (g xs (2 * p + 1)) (g xs (2 * p + 2)) = false then 2 * p + 2 else 2 * p + 1
theorem child_cases (n p : Nat) (xs : List T) : child lt n p xs = 2 * p + 1 ∨ child lt n p xs = 2 * p + 2 := by unfold child; split <;> simp
theorem child_lt {n p : Nat} {xs : List T} (h : 2 * p + 1 < n) : child lt n p xs < n := by
  unfold child
  split
  · rename_i q; exact q.1
  · exact h
noncomputable def suGo (lt : T → T → Bool) (n p : Nat) (xs : List T) : Nat × List T :=
  if h : 2 * p + 1 < n then suGo lt n (child lt n p xs) (xs.set p (g xs (child lt n p xs))) else (p, xs)
termination_by n - p
decreasing_by
  have := child_lt (lt := lt) (xs := xs) h
  rcases child_cases (lt := lt) n p xs with e | e <;> omega
theorem suGo_spec (H : Tot lt) (n p a : Nat) (xs : List T) (hn : xs.length = n) (hp : p < n) (hu : Under a p) (h1 : Hole lt a p xs) (h2 : Over lt a p xs) (x : T) :
    (suGo lt n p xs).2.length = n ∧ (suGo lt n p xs).1 < n ∧ Under a (suGo lt n p xs).1 ∧ Hole lt a (suGo lt n p xs).1 (suGo lt n p xs).2 ∧ n ≤ 2 * (suGo lt n p xs).1 + 1 ∧ ((suGo lt n p xs).2.set (suGo lt n p xs).1 x).Perm (xs.set p x) := by
  induction hk : n - p using Nat.strongRecOn generalizing p xs with
  | ind k ih =>
    rw [suGo]
    by_cases hc : 2 * p + 1 < n
    · rw [dif_pos hc]
      have hcl := child_lt (lt := lt) (xs := xs) hc
      have hcc := child_cases (lt := lt) n p xs
      generalize hC : child lt n p xs = c at *
      have hpar : par c = p := by unfold par; rcases hcc with e | e <;> omega
      have hcp : c ≠ p := by rcases hcc with e | e <;> omega
      have hc0 : 0 < c := by rcases hcc with e | e <;> omega
      have hpl : p < xs.length := by omega
      -- c is the lesser child
      have hmin : ∀ d, 0 < d → d < xs.length → par d = p → le lt (g xs c) (g xs d) := fun d hd0 hd e => by
        have hdd : d = 2 * p + 1 ∨ d = 2 * p + 2 := by unfold par at e; omega
        unfold child at hC
        split at hC
        · rename_i q
          subst hC
          rcases hdd with rfl | rfl
          · exact q.2
          · exact le_refl H _
        · rename_i q
          subst hC
          rcases hdd with rfl | rfl
          · exact le_refl H _
          · have : lt (g xs (2 * p + 1)) (g xs (2 * p + 2)) = true := by
              cases e2 : lt (g xs (2 * p + 1)) (g xs (2 * p + 2)) with
              | true => rfl
              | false => exact absurd ⟨by omega, e2⟩ q
            exact le_of_lt H this
      have hu' : Under a c := by
        rcases hcc with e | e
        · rw [e]; exact .left hu
        · rw [e]; exact .right hu
      have hap : a ≤ p := hu.le
      have h1' : Hole lt a c (xs.set p (g xs c)) := fun d hd0 hd had e1 e2 => by
        have hdl : d < xs.length := by simpa using hd
        by_cases e3 : d = p
        · subst e3
          rw [g_self hpl, g_ne hpl (by have := par_lt hd0; omega)]
          exact h2 (by have := par_lt hd0; omega) c hc0 (by omega) hpar
        · rw [g_ne hpl e3]
          by_cases e4 : par d = p
          · rw [e4, g_self hpl]; exact hmin d hd0 hdl e4
          · rw [g_ne hpl e4]; exact h1 d hd0 hdl had e4 e3
      have h2' : Over lt a c (xs.set p (g xs c)) := fun _ d hd0 hd e1 => by
        have hdl : d < xs.length := by simpa using hd
        have hdp : d ≠ p := fun z => by have := par_lt hd0; omega
        rw [hpar, g_self hpl, g_ne hpl hdp]
        have := h1 d hd0 hdl (by omega) (by omega) hdp
        rwa [e1] at this
      obtain ⟨q1, q2, q3, q4, q5, q6⟩ := ih (n - c) (by rcases hcc with e | e <;> omega) c (xs.set p (g xs c)) (by simpa using hn) hcl hu' h1' h2' rfl
      exact ⟨q1, q2, q3, q4, q5, q6.trans (swap_perm hpl (by omega) hcp)⟩
    · rw [dif_neg hc]
      exact ⟨hn, hp, hu, h1, by omega, List.Perm.refl _⟩
/-- _siftup -/
noncomputable def su (lt : T → T → Bool) (xs : List T) (p : Nat) : List T :=
  sdGo lt (g xs p) p (suGo lt xs.length p xs).1 ((suGo lt xs.length p xs).2.set (suGo lt xs.length p xs).1 (g xs p))
theorem set_self {xs : List T} {p : Nat} (hp : p < xs.length) : xs.set p (g xs p) = xs := by
  have e : g xs p = xs[p] := by simp [g, hp]
  rw [e]
  exact List.set_getElem_self hp
theorem su_spec (H : Tot lt) {xs : List T} {p : Nat} (hp : p < xs.length) (h : HeapFrom lt (p + 1) xs) : (su lt xs p).Perm xs ∧ HeapFrom lt p (su lt xs p) := by
  have h1 : Hole lt p p xs := fun c hc0 hc hac e1 e2 => h c hc0 hc (by omega)
  obtain ⟨q1, q2, q3, q4, q5, q6⟩ := suGo_spec H xs.length p p xs rfl hp .self h1 (fun z => absurd z (Nat.lt_irrefl _)) (g xs p)
  rw [set_self hp] at q6
  have hq : (suGo lt xs.length p xs).1 < ((suGo lt xs.length p xs).2.set (suGo lt xs.length p xs).1 (g xs p)).length := by simp [q1, q2]
  constructor
  · refine (sdGo_perm _ _ _ _ hq).trans ?_
    simpa using q6
  · refine sdGo_heap H _ _ _ _ hq q3 ?_ ?_ ?_
    · intro c hc0 hc hac e1 e2
      have hcl : c < (suGo lt xs.length p xs).2.length := by simpa using hc
      rw [g_ne (by omega) e2, g_ne (by omega) e1]
      exact q4 c hc0 hcl hac e1 e2
    · intro _ c hc0 hc e1
      have hcl : c < (suGo lt xs.length p xs).2.length := by simpa using hc
      unfold par at e1
      omega
    · intro c hc0 hc e1
      have hcl : c < (suGo lt xs.length p xs).2.length := by simpa using hc
      unfold par at e1
      omega

abbrev IsHeap (lt : T → T → Bool) (xs : List T) : Prop := HeapFrom lt 0 xs
theorem heap_min (H : Tot lt) {xs : List T} (h : IsHeap lt xs) : ∀ i, i < xs.length → le lt (g xs 0) (g xs i) := fun i => by
  induction i using Nat.strongRecOn with
  | ind i ih =>
    intro hi
    by_cases e : i = 0
    · subst e; exact le_refl H _
    · have := par_lt (c := i) (by omega)
      exact le_trans H (ih (par i) this (by omega)) (h i (by omega) hi (Nat.zero_le _))
theorem heap_head (H : Tot lt) {x : T} {xs : List T} (h : IsHeap lt (x :: xs)) : ∀ y ∈ x :: xs, le lt x y := fun y hy => by
  obtain ⟨i, hi, rfl⟩ := List.mem_iff_getElem.mp hy
  have := heap_min H h i hi
  have e1 : g (x :: xs) 0 = x := rfl
  have e2 : g (x :: xs) i = (x :: xs)[i] := by unfold g; rw [List.getD_eq_getElem?_getD, List.getElem?_eq_getElem hi]; rfl
  rwa [e1, e2] at this
theorem heap_nil : IsHeap lt [] := fun c _ hc _ => by simp at hc
theorem heap_init {xs : List T} (h : IsHeap lt xs) : IsHeap lt xs.dropLast := fun c hc0 hc hac => by
  have hl : xs.dropLast.length = xs.length - 1 := by simp
  have := par_lt hc0
  have e : ∀ i, i < xs.length - 1 → g xs.dropLast i = g xs i := fun i hi => by
    unfold g
    rw [List.getD_eq_getElem?_getD, List.getD_eq_getElem?_getD, List.getElem?_dropLast, if_pos hi]
  rw [e _ (by omega), e _ (by omega)]
  exact h c hc0 (by omega) hac
/-- heappush -/
theorem push_spec (H : Tot lt) {xs : List T} {x : T} (h : IsHeap lt xs) : (sdGo lt x 0 xs.length (xs ++ [x])).Perm (xs ++ [x]) ∧ IsHeap lt (sdGo lt x 0 xs.length (xs ++ [x])) := by
  have hp : xs.length < (xs ++ [x]).length := by simp
  have e : ∀ i, i < xs.length → g (xs ++ [x]) i = g xs i := fun i hi => by
    unfold g
    rw [List.getD_eq_getElem?_getD, List.getD_eq_getElem?_getD, List.getElem?_append_left hi]
  constructor
  · have := sdGo_perm (lt := lt) x 0 xs.length (xs ++ [x]) hp
    have e2 : (xs ++ [x]).set xs.length x = xs ++ [x] := by simp
    rwa [e2] at this
  · refine sdGo_heap H x 0 _ _ hp (under_zero _) ?_ ?_ ?_
    · intro c hc0 hc hac e1 e2
      have hcl : c < xs.length := by simp at hc; omega
      have := par_lt hc0
      rw [e _ (by omega), e _ hcl]
      exact h c hc0 hcl hac
    · intro _ c hc0 hc e1
      have := par_lt hc0
      simp at hc
      omega
    · intro c hc0 hc e1
      have := par_lt hc0
      simp at hc
      omega
/-- another first item, sifted -/
theorem repl_spec (H : Tot lt) {xs : List T} {x y : T} (h : IsHeap lt (y :: xs)) : (su lt (x :: xs) 0).Perm (x :: xs) ∧ IsHeap lt (su lt (x :: xs) 0) := by
  refine su_spec H (by simp) fun c hc0 hc hac => ?_
  have h1 : 0 < par c := hac
  have := h c hc0 (by simpa using hc) (Nat.zero_le _)
  obtain ⟨j, hj⟩ : ∃ j, par c = j + 1 := ⟨par c - 1, by omega⟩
  obtain ⟨k, hk⟩ : ∃ k, c = k + 1 := ⟨c - 1, by omega⟩
  rw [hj] at this ⊢
  rw [hk] at this ⊢
  exact this
/-- heapify -/
noncomputable def hify (lt : T → T → Bool) : Nat → List T → List T
  | 0, xs => xs
  | k + 1, xs => hify lt k (su lt xs k)
theorem hify_spec (H : Tot lt) : ∀ (k : Nat) (xs : List T), k ≤ xs.length → HeapFrom lt k xs → (hify lt k xs).Perm xs ∧ IsHeap lt (hify lt k xs)
  | 0, xs, _, h => ⟨List.Perm.refl _, h⟩
  | k + 1, xs, hk, h => by
    obtain ⟨q1, q2⟩ := su_spec H (p := k) (by omega) h
    obtain ⟨r1, r2⟩ := hify_spec H k (su lt xs k) (by rw [q1.length_eq]; omega) q2
    exact ⟨r1.trans q1, r2⟩
theorem half_heap (xs : List T) : HeapFrom lt (xs.length / 2) xs := fun c hc0 hc hac => by
  unfold par at hac
  omega
theorem heapify_spec (H : Tot lt) (xs : List T) : (hify lt (xs.length / 2) xs).Perm xs ∧ IsHeap lt (hify lt (xs.length / 2) xs) := hify_spec H _ xs (by omega) (half_heap xs)
end
end Mine
end

/-! ## Sch -/
section
namespace Mine
section
variable (n : Nat) (r sz : Nat → Int) (pr : Nat → Nat → Prop)

structure Inv (τ : Int) (wj : List Nat) (P : List (Nat × Int)) (U : Nat → List Int) : Prop where
  nd : (wj ++ P.map (·.1)).Nodup
  lt : ∀ j ∈ wj ++ P.map (·.1), j < n
  ord : wj.Pairwise (fun i j => r j ≤ r i)
  wait : ∀ j ∈ wj, U j = [] ∧ τ ≤ r j
  pool : ∀ p ∈ P, 1 ≤ p.2 ∧ ((U p.1).length : Int) + p.2 = sz p.1 ∧ r p.1 ≤ τ
  done : ∀ j, j < n → j ∉ wj → j ∉ P.map (·.1) → ((U j).length : Int) = sz j
  asc : ∀ j, (U j).Pairwise (· < ·)
  rng : ∀ j, ∀ u ∈ U j, r j ≤ u ∧ u < τ
  dis : ∀ i j u, u ∈ U i → u ∈ U j → i = j
  out : ∀ j, n ≤ j → U j = []
  gapP : ∀ p ∈ P, ∀ t, r p.1 ≤ t → t < τ → t ∉ U p.1 → ∃ i, t ∈ U i ∧ pr i p.1
  gapD : ∀ j, j < n → j ∉ wj → j ∉ P.map (·.1) → ∀ t, r j ≤ t → (∃ u ∈ U j, t < u) → t ∉ U j → ∃ i, t ∈ U i ∧ pr i j

/-- what is known of a whole plan -/
structure Sched (U : Nat → List Int) : Prop where
  len : ∀ j, j < n → ((U j).length : Int) = sz j
  asc : ∀ j, (U j).Pairwise (· < ·)
  rel : ∀ j, ∀ u ∈ U j, r j ≤ u
  dis : ∀ i j u, u ∈ U i → u ∈ U j → i = j
  out : ∀ j, n ≤ j → U j = []
  gap : ∀ j, j < n → ∀ t, r j ≤ t → (∃ u ∈ U j, t < u) → t ∉ U j → ∃ i, t ∈ U i ∧ pr i j

/-- the slots from τ on, ρ of them -/
def slots (τ : Int) (ρ : Nat) : List Int := (List.range ρ).map fun (k : Nat) => τ + (k : Int)
def addSlots (U : Nat → List Int) (j : Nat) (l : List Int) : Nat → List Int := fun i => if i = j then U i ++ l else U i
end

theorem mem_slots {τ : Int} {ρ : Nat} {t : Int} : t ∈ slots τ ρ ↔ τ ≤ t ∧ t < τ + ρ := by
  unfold slots
  rw [List.mem_map]
  constructor
  · rintro ⟨k, hk, rfl⟩
    have : k < ρ := by simpa using hk
    omega
  · rintro ⟨h1, h2⟩
    refine ⟨(t - τ).toNat, by simp; omega, by omega⟩
theorem slots_asc (τ : Int) (ρ : Nat) : (slots τ ρ).Pairwise (· < ·) := by
  unfold slots
  rw [List.pairwise_map]
  refine List.Pairwise.imp ?_ List.pairwise_lt_range
  intro a b h
  omega
theorem slots_len (τ : Int) (ρ : Nat) : (slots τ ρ).length = ρ := by simp [slots]
theorem slots_succ (τ : Int) (ρ : Nat) : slots τ (ρ + 1) = slots τ ρ ++ [τ + (ρ : Int)] := by
  unfold slots
  rw [List.range_succ, List.map_append]
  rfl

section
variable {n : Nat} {r sz : Nat → Int} {pr : Nat → Nat → Prop} {τ : Int} {wj : List Nat} {P : List (Nat × Int)} {U : Nat → List Int}

theorem Inv.perm (I : Inv n r sz pr τ wj P U) {P' : List (Nat × Int)} (h : P'.Perm P) : Inv n r sz pr τ wj P' U where
  nd := ((List.Perm.append_left wj (h.map (·.1))).nodup_iff).mpr I.nd
  lt := fun j hj => I.lt j ((List.Perm.append_left wj (h.map (·.1))).mem_iff.mp hj)
  ord := I.ord
  wait := I.wait
  pool := fun p hp => I.pool p (h.mem_iff.mp hp)
  done := fun j h1 h2 h3 => I.done j h1 h2 fun z => h3 ((h.map (·.1)).mem_iff.mpr z)
  asc := I.asc
  rng := I.rng
  dis := I.dis
  out := I.out
  gapP := fun p hp => I.gapP p (h.mem_iff.mp hp)
  gapD := fun j h1 h2 h3 => I.gapD j h1 h2 fun z => h3 ((h.map (·.1)).mem_iff.mpr z)

/-- nothing is there: the hour is the next coming's -/
theorem Inv.jump {k : Nat} (I : Inv n r sz pr τ (wj ++ [k]) [] U) : Inv n r sz pr (r k) (wj ++ [k]) [] U where
  nd := I.nd
  lt := I.lt
  ord := I.ord
  wait := fun j hj => ⟨(I.wait j hj).1, by
    rcases List.mem_append.mp hj with h | h
    · exact (List.pairwise_append.mp I.ord).2.2 j h k (.head _)
    · rw [List.mem_singleton.mp h]; exact Int.le_refl _⟩
  pool := fun p hp => nomatch hp
  done := I.done
  asc := I.asc
  rng := fun j u hu => ⟨(I.rng j u hu).1, by
    have h1 := (I.rng j u hu).2
    have h2 := (I.wait k (List.mem_append_right _ (.head _))).2
    omega⟩
  dis := I.dis
  out := I.out
  gapP := fun p hp => nomatch hp
  gapD := I.gapD
/-- one that comes now joins the pool -/
theorem Inv.join {k : Nat} (I : Inv n r sz pr τ (wj ++ [k]) P U) (hk : r k = τ) (hs : 1 ≤ sz k) : Inv n r sz pr τ wj ((k, sz k) :: P) U where
  nd := by
    have := I.nd
    rw [List.append_assoc] at this
    exact this
  lt := by
    have := I.lt
    rw [List.append_assoc] at this
    exact this
  ord := (List.pairwise_append.mp I.ord).1
  wait := fun j hj => I.wait j (List.mem_append_left _ hj)
  pool := fun p hp => by
    rcases List.mem_cons.mp hp with rfl | hp
    · have := (I.wait k (List.mem_append_right _ (.head _))).1
      refine ⟨hs, ?_, by show r k ≤ τ; omega⟩
      show ((U k).length : Int) + sz k = sz k
      rw [this]; simp
    · exact I.pool p hp
  done := fun j h1 h2 h3 => I.done j h1 (fun z => by
    rcases List.mem_append.mp z with z | z
    · exact h2 z
    · exact h3 (by rw [List.mem_singleton.mp z]; exact .head _)) fun z => h3 (.tail _ z)
  asc := I.asc
  rng := I.rng
  dis := I.dis
  out := I.out
  gapP := fun p hp t h1 h2 => by
    rcases List.mem_cons.mp hp with rfl | hp
    · have h1' : r k ≤ t := h1
      omega
    · exact I.gapP p hp t h1 h2
  gapD := fun j h1 h2 h3 => I.gapD j h1 (fun z => by
    rcases List.mem_append.mp z with z | z
    · exact h2 z
    · exact h3 (by rw [List.mem_singleton.mp z]; exact .head _)) fun z => h3 (.tail _ z)

theorem mem_add {U : Nat → List Int} {j i : Nat} {l : List Int} {t : Int} : t ∈ addSlots U j l i ↔ t ∈ U i ∨ (i = j ∧ t ∈ l) := by
  unfold addSlots
  by_cases h : i = j
  · rw [if_pos h, List.mem_append]
    constructor
    · rintro (q | q)
      · exact .inl q
      · exact .inr ⟨h, q⟩
    · rintro (q | ⟨_, q⟩)
      · exact .inl q
      · exact .inr q
  · rw [if_neg h]
    constructor
    · exact .inl
    · rintro (q | ⟨z, _⟩)
      · exact q
      · exact absurd z h
/-- the first of the pool is worked at -/
theorem Inv.work {j : Nat} {q : Int} {P' : List (Nat × Int)} {ρ : Nat} (I : Inv n r sz pr τ wj ((j, q) :: P') U) (hpr : ∀ p ∈ P', pr j p.1) (h1 : 1 ≤ ρ) (h2 : (ρ : Int) ≤ q) (hw : ∀ k ∈ wj, τ + ρ ≤ r k) :
    Inv n r sz pr (τ + ρ) wj (if (ρ : Int) < q then (j, q - ρ) :: P' else P') (addSlots U j (slots τ ρ)) := by
  have hj : j ∈ wj ++ ((j, q) :: P').map (·.1) := List.mem_append_right _ (.head _)
  have hnd := List.nodup_append.mp I.nd
  have hjw : j ∉ wj := fun z => hnd.2.2 j z j (.head _) rfl
  have hnd2 : (j :: P'.map (·.1)).Nodup := hnd.2.1
  have hjP : j ∉ P'.map (·.1) := (List.nodup_cons.mp hnd2).1
  have hpool := I.pool (j, q) (.head _)
  have hfst : ∀ i, i ∈ (if (ρ : Int) < q then (j, q - ρ) :: P' else P').map (·.1) → i ∈ ((j, q) :: P').map (·.1) := fun i hi => by
    split at hi
    · exact hi
    · exact .tail _ hi
  have hnotin : ∀ i, i ∉ (if (ρ : Int) < q then (j, q - ρ) :: P' else P').map (·.1) → i ∉ P'.map (·.1) := fun i hi z => hi (by
    split
    · exact .tail _ z
    · exact z)
  have keepU : ∀ i, i ≠ j → addSlots U j (slots τ ρ) i = U i := fun i hi => by unfold addSlots; rw [if_neg hi]
  have lenJ : ((addSlots U j (slots τ ρ) j).length : Int) = (U j).length + ρ := by
    unfold addSlots
    rw [if_pos rfl, List.length_append, slots_len]
    omega
  refine ⟨?_, ?_, I.ord, ?_, ?_, ?_, ?_, ?_, ?_, ?_, ?_, ?_⟩
  · split
    · exact I.nd
    · rw [List.nodup_append]
      exact ⟨hnd.1, (List.nodup_cons.mp hnd2).2, fun a ha b hb => hnd.2.2 a ha b (.tail _ hb)⟩
  · intro i hi
    rcases List.mem_append.mp hi with z | z
    · exact I.lt i (List.mem_append_left _ z)
    · exact I.lt i (List.mem_append_right _ (hfst i z))
  · intro k hk
    have hkj : k ≠ j := fun z => hjw (z ▸ hk)
    exact ⟨by rw [keepU k hkj]; exact (I.wait k hk).1, hw k hk⟩
  · intro p hp
    have other : p ∈ P' → 1 ≤ p.2 ∧ ((addSlots U j (slots τ ρ) p.1).length : Int) + p.2 = sz p.1 ∧ r p.1 ≤ τ + ρ := fun hp => by
      have hpj : p.1 ≠ j := fun z => hjP (z ▸ List.mem_map_of_mem hp)
      have := I.pool p (.tail _ hp)
      rw [keepU _ hpj]
      exact ⟨this.1, this.2.1, by omega⟩
    split at hp
    · rename_i hlt
      rcases List.mem_cons.mp hp with rfl | hp
      · refine ⟨by show 1 ≤ q - ρ; omega, ?_, ?_⟩
        · show ((addSlots U j (slots τ ρ) j).length : Int) + (q - ρ) = sz j
          have := hpool.2.1
          rw [lenJ]
          dsimp only at this
          omega
        · have := hpool.2.2
          dsimp only at this ⊢
          omega
      · exact other hp
    · exact other hp
  · intro i hi h3 h4
    by_cases e : i = j
    · subst e
      split at h4
      · exact absurd (.head _) h4
      · rename_i hlt
        have := hpool.2.1
        dsimp only at this
        rw [lenJ]
        omega
    · rw [keepU i e]
      refine I.done i hi h3 fun z => ?_
      rcases List.mem_cons.mp z with z | z
      · exact e z
      · exact hnotin i h4 z
  · intro i
    unfold addSlots
    split
    · rw [List.pairwise_append]
      refine ⟨I.asc i, slots_asc _ _, fun a ha b hb => ?_⟩
      have := (I.rng i a ha).2
      have := (mem_slots.mp hb).1
      omega
    · exact I.asc i
  · intro i u hu
    rcases mem_add.mp hu with z | ⟨rfl, z⟩
    · have := I.rng i u z
      exact ⟨this.1, by omega⟩
    · have := mem_slots.mp z
      have h5 := hpool.2.2
      dsimp only at h5
      omega
  · intro a b u ha hb
    rcases mem_add.mp ha with z | ⟨rfl, z⟩ <;> rcases mem_add.mp hb with y | ⟨rfl, y⟩
    · exact I.dis a b u z y
    · have := (I.rng a u z).2
      have := (mem_slots.mp y).1
      omega
    · have := (I.rng b u y).2
      have := (mem_slots.mp z).1
      omega
    · rfl
  · intro i hi
    have hij : i ≠ j := fun z => by subst z; have := I.lt i hj; omega
    rw [keepU i hij]
    exact I.out i hi
  · intro p hp t h3 h4 h5
    -- both a rest of j's own and the others
    have main : p.1 = j ∨ p ∈ P' := by
      split at hp
      · rcases List.mem_cons.mp hp with rfl | hp
        · exact .inl rfl
        · exact .inr hp
      · exact .inr hp
    by_cases ht : t < τ
    · have hold : ∃ i, t ∈ U i ∧ pr i p.1 := by
        rcases main with e | hp'
        · rw [e] at h3 h5 ⊢
          exact I.gapP (j, q) (.head _) t h3 ht fun z => h5 (mem_add.mpr (.inl z))
        · exact I.gapP p (.tail _ hp') t h3 ht fun z => h5 (mem_add.mpr (.inl z))
      obtain ⟨i, q1, q2⟩ := hold
      exact ⟨i, mem_add.mpr (.inl q1), q2⟩
    · have hin : t ∈ slots τ ρ := mem_slots.mpr ⟨by omega, h4⟩
      rcases main with e | hp'
      · exact absurd (mem_add.mpr (.inr ⟨e, hin⟩)) h5
      · exact ⟨j, mem_add.mpr (.inr ⟨rfl, hin⟩), hpr p hp'⟩
  · intro i hi h3 h4 t h5 h6 h7
    by_cases e : i = j
    · subst e
      have ht : t < τ := by
        obtain ⟨u, hu, hlt⟩ := h6
        rcases mem_add.mp hu with z | ⟨_, z⟩
        · have := (I.rng i u z).2; omega
        · by_cases hc : t < τ
          · exact hc
          · exact absurd (mem_add.mpr (.inr ⟨rfl, mem_slots.mpr ⟨by omega, by have := (mem_slots.mp z).2; omega⟩⟩)) h7
      obtain ⟨k, q1, q2⟩ := I.gapP (i, q) (.head _) t h5 ht fun z => h7 (mem_add.mpr (.inl z))
      exact ⟨k, mem_add.mpr (.inl q1), q2⟩
    · rw [keepU i e] at h6 h7
      obtain ⟨k, q1, q2⟩ := I.gapD i hi h3 (fun z => by
        rcases List.mem_cons.mp z with z | z
        · exact e z
        · exact hnotin i h4 z) t h5 h6 h7
      exact ⟨k, mem_add.mpr (.inl q1), q2⟩
theorem Inv.sched (I : Inv n r sz pr τ [] [] U) : Sched n r sz pr U where
  len := fun j hj => I.done j hj (by simp) (by simp)
  asc := I.asc
  rel := fun j u hu => (I.rng j u hu).1
  dis := I.dis
  out := I.out
  gap := fun j hj => I.gapD j hj (by simp) (by simp)
theorem Inv.start (hp : wj.Perm (List.range n)) (ho : wj.Pairwise (fun i j => r j ≤ r i)) (hτ : ∀ j ∈ wj, τ ≤ r j) : Inv n r sz pr τ wj [] fun _ => [] where
  nd := by simpa using hp.nodup_iff.mpr List.nodup_range
  lt := fun j hj => by
    have : j ∈ wj := by simpa using hj
    simpa using hp.mem_iff.mp this
  ord := ho
  wait := fun j hj => ⟨rfl, hτ j hj⟩
  pool := fun p hp => nomatch hp
  done := fun j h1 h2 => absurd (hp.mem_iff.mpr (by simpa using h1)) h2
  asc := fun j => .nil
  rng := fun j u hu => nomatch hu
  dis := fun i j u hu => nomatch hu
  out := fun j _ => rfl
  gapP := fun p hp => nomatch hp
  gapD := fun j h1 h2 => absurd (hp.mem_iff.mpr (by simpa using h1)) h2
end

/-! counting -/
theorem nodup_le {α : Type} : ∀ {l m : List α}, l.Nodup → (∀ x ∈ l, x ∈ m) → l.length ≤ m.length
  | [], _, _, _ => Nat.zero_le _
  | x :: l, m, hn, hs => by
    obtain ⟨m1, m2, rfl⟩ := List.append_of_mem (hs x (.head _))
    have hn' := List.nodup_cons.mp hn
    have := nodup_le (l := l) (m := m1 ++ m2) hn'.2 fun y hy => by
      have hy' := hs y (.tail _ hy)
      have hne : y ≠ x := fun z => hn'.1 (z ▸ hy)
      simp at hy' ⊢
      rcases hy' with h | h | h
      · exact .inl h
      · exact absurd h hne
      · exact .inr h
    simp at this ⊢
    omega
theorem slots_nodup (τ : Int) (ρ : Nat) : (slots τ ρ).Nodup := (slots_asc τ ρ).imp fun h => by omega
/-- distinct numbers, none less than a, reach up to a and their count -/
theorem some_late {l : List Int} {a : Int} (hn : l.Nodup) (h : ∀ x ∈ l, a ≤ x) (hne : l ≠ []) : ∃ x ∈ l, a + (l.length : Int) - 1 ≤ x := by
  by_cases e : ∃ x ∈ l, a + (l.length : Int) - 1 ≤ x
  · exact e
  · exfalso
    have hpos : 0 < l.length := by cases l with
      | nil => exact absurd rfl hne
      | cons => simp
    have := nodup_le (m := slots a (l.length - 1)) hn fun x hx => mem_slots.mpr ⟨h x hx, by
      have : ¬ (a + (l.length : Int) - 1 ≤ x) := fun z => e ⟨x, hx, z⟩
      omega⟩
    rw [slots_len] at this
    omega
theorem cover_le {l : List Int} {a b : Int} (h : ∀ t, a ≤ t → t < b → t ∈ l) : b - a ≤ l.length := by
  by_cases e : a < b
  · have := nodup_le (slots_nodup a (b - a).toNat) fun t ht => h t (mem_slots.mp ht).1 (by have := (mem_slots.mp ht).2; omega)
    rw [slots_len] at this
    omega
  · omega
end Mine
end

/-! ## P1 -/
section
namespace Mine
theorem filter_skip {l : List Int} {t : Int} (h : t ∉ l) : l.filter (fun u => decide (u < t + 1)) = l.filter (fun u => decide (u < t)) := by
  refine List.filter_congr fun x hx => ?_
  have : x ≠ t := fun z => h (z ▸ hx)
  rw [decide_eq_decide]
  omega
theorem filter_succ : ∀ {l : List Int} {t : Int}, l.Pairwise (· < ·) → t ∈ l → l.filter (fun u => decide (u < t + 1)) = l.filter (fun u => decide (u < t)) ++ [t]
  | [], _, _, h => nomatch h
  | x :: l, t, hp, h => by
    have hp' := List.pairwise_cons.mp hp
    by_cases e : x = t
    · subst e
      have hn : x ∉ l := fun z => by have := hp'.1 x z; omega
      have hall : ∀ y ∈ l, ¬ decide (y < x) = true := fun y hy => by have := hp'.1 y hy; simp; omega
      rw [List.filter_cons_of_pos (by simp; omega), List.filter_cons_of_neg (by simp), filter_skip hn, List.filter_eq_nil_iff.mpr hall]
      rfl
    · have ht : t ∈ l := by
        rcases List.mem_cons.mp h with z | z
        · exact absurd z.symm e
        · exact z
      have := hp'.1 t ht
      rw [List.filter_cons_of_pos (by simp; omega), List.filter_cons_of_pos (by simp; omega), filter_succ hp'.2 ht]
      rfl
theorem filter_full {l : List Int} {t : Int} (h : l.length ≤ (l.filter (fun u => decide (u < t))).length) : (∀ x ∈ l, x < t) ∧ l.filter (fun u => decide (u < t)) = l := by
  have h1 : (l.filter (fun u => decide (u < t))).length ≤ l.length := List.length_filter_le _ _
  have h2 : (l.filter (fun u => decide (u < t))).length = l.length := by omega
  have h3 := List.length_filter_eq_length_iff.mp h2
  refine ⟨fun x hx => by simpa using h3 x hx, List.filter_eq_self.mpr h3⟩
def ahead (l : List Int) (t : Int) : Nat := (l.map fun u => (u + 1 - t).toNat).sum
theorem ahead_le : ∀ (l : List Int) (t : Int), ahead l (t + 1) ≤ ahead l t
  | [], _ => Nat.le_refl _
  | x :: l, t => by
    have := ahead_le l t
    simp only [ahead, List.map_cons, List.sum_cons] at this ⊢
    omega
theorem ahead_lt : ∀ {l : List Int} {t : Int}, (∃ u ∈ l, t ≤ u) → ahead l (t + 1) < ahead l t
  | [], _, h => by obtain ⟨_, h, _⟩ := h; cases h
  | x :: l, t, h => by
    obtain ⟨u, hu, hle⟩ := h
    have h0 := ahead_le l t
    rcases List.mem_cons.mp hu with rfl | hu
    · simp only [ahead, List.map_cons, List.sum_cons] at h0 ⊢
      omega
    · have := ahead_lt ⟨u, hu, hle⟩
      simp only [ahead, List.map_cons, List.sum_cons] at this ⊢
      omega
theorem filter_none {l : List Int} {t : Int} (h : ∀ x ∈ l, t ≤ x) : l.filter (fun u => decide (u < t)) = [] := by
  refine List.filter_eq_nil_iff.mpr fun x hx => ?_
  have := h x hx
  simp
  omega
theorem filter_some {l : List Int} {t : Int} (h : (l.filter (fun u => decide (u < t))).length < l.length) : ∃ u ∈ l, t ≤ u := by
  by_cases e : ∃ u ∈ l, t ≤ u
  · exact e
  · exfalso
    have : l.filter (fun u => decide (u < t)) = l := List.filter_eq_self.mpr fun x hx => by
      have : ¬ t ≤ x := fun z => e ⟨x, hx, z⟩
      simp
      omega
    rw [this] at h
    omega
end Mine
end

/-! ## M0 -/
section
namespace Mine
open PySem PySem.W PyProof.Rows

inductive V where
  | none
  | bool (b : Bool)
  | int (i : Int)
  | tup (is : List Int)
  | ref (a : Addr)

inductive AO where
  | list (xs : List V)
  | cell (v : Option V)

abbrev Store := Addr → Option AO
def upd (σ : Store) (a : Addr) (o : AO) : Store := fun b => if b = a then some o else σ b

structure St where
  m : List (Str × V)
  σ : Store

inductive AFlow where
  | next | brk | cont
  | ret (v : V)

def VRep (h : Heap) (v : Value) : V → Prop
  | .none => v = .none
  | .bool b => v = .bool b
  | .int i => ∃ t, v = .int i t
  | .tup is => ∃ a vs n, v = .ref a ∧ IsT h a vs.toArray n ∧ IntsAre vs is
  | .ref a => v = .ref a

inductive VReps (h : Heap) : List Value → List V → Prop
  | nil : VReps h [] []
  | cons {v x vs xs} : VRep h v x → VReps h vs xs → VReps h (v :: vs) (x :: xs)

def ORep (h : Heap) (a : Addr) : AO → Prop
  | .list xs => ∃ vs n, IsL h a vs.toArray n ∧ VReps h vs xs ∧ xs.length ≤ 1048576
  | .cell Option.none => h.IsCell a Option.none
  | .cell (some x) => ∃ v, h.IsCell a (some v) ∧ VRep h v x

def FRep (h : Heap) : Flow → AFlow → Prop
  | .next, .next => True
  | .brk, .brk => True
  | .cont, .cont => True
  | .ret v, .ret x => VRep h v x
  | _, _ => False

def BRep (_ : Heap) (b c : Bool) : Prop := b = c
def URep (_ : Heap) (_ _ : Unit) : Prop := True

def Grow (h h' : Heap) : Prop := ∀ a vs n, IsT h a vs n → IsT h' a vs n
def Ext (h h' : Heap) : Prop := ∀ b o, h.get? b = some o → h'.get? b = some o

theorem Ext.refl (h : Heap) : Ext h h := fun _ _ e => e
theorem Ext.trans {h₁ h₂ h₃ : Heap} (x : Ext h₁ h₂) (y : Ext h₂ h₃) : Ext h₁ h₃ := fun b o e => y b o (x b o e)
theorem Ext.grow {h h' : Heap} (x : Ext h h') : Grow h h' := fun a vs n e => x a _ e
theorem Ext.push (h : Heap) (o : Obj) : Ext h (h.push o) := fun _ _ e => Heap.get?_push_of_some o e
theorem Ext.fresh {a : Addr} {h h' : Heap} (x : Heap.ExtBut a h h') (e : h.get? a = none) : Ext h h' := fun b o q => x b o (fun z => by rw [z, e] at q; cases q) q
theorem Grow.refl (h : Heap) : Grow h h := fun _ _ _ e => e
theorem Grow.trans {h₁ h₂ h₃ : Heap} (x : Grow h₁ h₂) (y : Grow h₂ h₃) : Grow h₁ h₃ := fun a vs n e => y a vs n (x a vs n e)
theorem size_none (h : Heap) : h.get? h.objs.size = none := by
  cases e : h.get? h.objs.size with
  | none => rfl
  | some o => exact absurd (Heap.lt_size e) (Nat.lt_irrefl _)

theorem VRep.grow {h h' : Heap} (g : Grow h h') {v : Value} : ∀ {x : V}, VRep h v x → VRep h' v x
  | .none, e => e
  | .bool _, e => e
  | .int _, e => e
  | .tup _, ⟨a, vs, n, e1, e2, e3⟩ => ⟨a, vs, n, e1, g _ _ _ e2, e3⟩
  | .ref _, e => e
theorem VReps.grow {h h' : Heap} (g : Grow h h') {vs : List Value} {xs : List V} (x : VReps h vs xs) : VReps h' vs xs := by
  induction x with
  | nil => exact .nil
  | cons a _ ih => exact .cons (a.grow g) ih
theorem VReps.length {h : Heap} {vs : List Value} {xs : List V} (x : VReps h vs xs) : vs.length = xs.length := by
  induction x with
  | nil => rfl
  | cons _ _ ih => simp [ih]
theorem VReps.get {h : Heap} {vs : List Value} {xs : List V} (x : VReps h vs xs) : ∀ {i : Nat} {y : V}, xs[i]? = some y → ∃ v, vs[i]? = some v ∧ VRep h v y := by
  induction x with
  | nil => intro i y e; simp at e
  | cons a _ ih =>
    intro i y e
    cases i with
    | zero => simp at e; subst e; exact ⟨_, by simp, a⟩
    | succ i => simp at e; simpa using ih e
theorem VReps.get' {h : Heap} {vs : List Value} {xs : List V} (x : VReps h vs xs) : ∀ {i : Nat} {v : Value}, vs[i]? = some v → ∃ y, xs[i]? = some y ∧ VRep h v y := by
  induction x with
  | nil => intro i y e; simp at e
  | cons a _ ih =>
    intro i y e
    cases i with
    | zero => simp at e; subst e; exact ⟨_, by simp, a⟩
    | succ i => simp at e; simpa using ih e
theorem VReps.append {h : Heap} {vs ws : List Value} {xs ys : List V} (x : VReps h vs xs) (y : VReps h ws ys) : VReps h (vs ++ ws) (xs ++ ys) := by
  induction x with
  | nil => exact y
  | cons a _ ih => exact .cons a ih
theorem VReps.set {h : Heap} {vs : List Value} {xs : List V} (x : VReps h vs xs) {v : Value} {y : V} (hv : VRep h v y) : ∀ (i : Nat), VReps h (vs.set i v) (xs.set i y) := by
  induction x with
  | nil => intro i; exact .nil
  | cons a r ih =>
    intro i
    cases i with
    | zero => exact .cons hv r
    | succ i => exact .cons a (ih i)
theorem VReps.dropLast {h : Heap} {vs : List Value} {xs : List V} (x : VReps h vs xs) : VReps h vs.dropLast xs.dropLast := by
  induction x with
  | nil => exact .nil
  | cons a r ih =>
    cases r with
    | nil => exact .nil
    | cons b r' => exact .cons a ih
theorem VReps.take {h : Heap} {vs : List Value} {xs : List V} (x : VReps h vs xs) : ∀ n, VReps h (vs.take n) (xs.take n) := by
  induction x with
  | nil => intro n; simp; exact .nil
  | cons a r ih =>
    intro n
    cases n with
    | zero => simp; exact .nil
    | succ n => simp; exact .cons a (ih n)
theorem VReps.drop {h : Heap} {vs : List Value} {xs : List V} (x : VReps h vs xs) : ∀ n, VReps h (vs.drop n) (xs.drop n) := by
  induction x with
  | nil => intro n; simp; exact .nil
  | cons a r ih =>
    intro n
    cases n with
    | zero => simp; exact .cons a r
    | succ n => simp; exact ih n
theorem VReps.of_ints {h : Heap} {vs : List Value} {ns : List Int} (x : IntsAre vs ns) : VReps h vs (ns.map V.int) := by
  induction x with
  | nil => exact .nil
  | cons n t _ ih => exact .cons ⟨t, rfl⟩ ih
theorem VReps.ints {h : Heap} {vs : List Value} : ∀ {ns : List Int}, VReps h vs (ns.map V.int) → IntsAre vs ns
  | [], x => by
    simp at x
    cases x
    exact .nil
  | n :: ns, x => by
    simp at x
    cases x with
    | cons a r =>
      obtain ⟨t, rfl⟩ := a
      exact .cons n t (VReps.ints r)

theorem ORep.list_ne_tup {h : Heap} {a : Addr} {o : AO} (x : ORep h a o) {vs : Array Value} {n : Nat} : ¬ IsT h a vs n := by
  intro e
  match o, x with
  | .list xs, ⟨vs', n', e', _⟩ => have q := e.symm.trans e'; simp at q
  | .cell Option.none, ⟨o, e', d⟩ => have q := e.symm.trans e'; simp at q; rw [← q] at d; simp at d
  | .cell (some _), ⟨v, ⟨o, e', d⟩, _⟩ => have q := e.symm.trans e'; simp at q; rw [← q] at d; simp at d
theorem ORep.ne_ns {h : Heap} {a : Addr} {o : AO} (x : ORep h a o) {m : Str → Option Value} : ¬ h.Ns a m := by
  rintro ⟨o', es, ep, e, d', _⟩
  match o, x with
  | .list xs, ⟨vs', n', e', _⟩ => have q := e.symm.trans e'; simp at q; rw [q] at d'; simp at d'
  | .cell Option.none, ⟨o, e', d⟩ => have q := e.symm.trans e'; simp at q; rw [← q, d'] at d; simp at d
  | .cell (some _), ⟨v, ⟨o, e', d⟩, _⟩ => have q := e.symm.trans e'; simp at q; rw [← q, d'] at d; simp at d
theorem ORep.got {h : Heap} {a : Addr} {o : AO} (x : ORep h a o) : ∃ ob, h.get? a = some ob := by
  match o, x with
  | .list xs, ⟨vs', n', e', _⟩ => exact ⟨_, e'⟩
  | .cell Option.none, ⟨o, e', d⟩ => exact ⟨_, e'⟩
  | .cell (Option.some _), ⟨v, ⟨o, e', d⟩, _⟩ => exact ⟨_, e'⟩
theorem ORep.at {h h' : Heap} {a : Addr} (g : Grow h h') (k : ∀ o, h.get? a = some o → h'.get? a = some o) : ∀ {o : AO}, ORep h a o → ORep h' a o
  | .list xs, ⟨vs, n, e, r, z⟩ => ⟨vs, n, k _ e, r.grow g, z⟩
  | .cell Option.none, ⟨o, e, d⟩ => ⟨o, k _ e, d⟩
  | .cell (Option.some _), ⟨v, ⟨o, e, d⟩, r⟩ => ⟨v, ⟨o, k _ e, d⟩, r.grow g⟩

structure Bs where
  prog : Program
  w : World
  s0 : Shared
  hb : Heap
  mg : Str → Option Value
  mb : Str → Option Value

structure Rep (B : Bs) (K : Addr → Obj → Prop) (L : Addr) (st : St) (s : Shared) : Prop where
  sh : ∃ h tk, s = { B.s0 with heap := h, toks := tk }
  ns : ∃ m', s.heap.Ns L m' ∧ ∀ x v, st.m.lookup x = some v → ∃ v', m' x = some v' ∧ VRep s.heap v' v
  ob : ∀ a o, st.σ a = some o → ORep s.heap a o
  keep : ∀ b o, K b o → s.heap.get? b = some o
  kL : ∀ o, ¬ K L o
  kσ : ∀ a o, K a o → st.σ a = none
  base : ∀ b o, B.hb.get? b = some o → K b o

section
variable {B : Bs} {K : Addr → Obj → Prop} {L : Addr} {st st' : St} {s : Shared} {h' : Heap} {tk : Nat} {a : Addr} {o : AO}

theorem Rep.baseAt (R : Rep B K L st s) : Ext B.hb s.heap := fun b o e => R.keep b o (R.base b o e)
theorem Rep.sh' (R : Rep B K L st s) : ∃ h tk', { s with heap := h', toks := tk } = { B.s0 with heap := h, toks := tk' } := by
  obtain ⟨h, t, e⟩ := R.sh
  exact ⟨h', tk, by rw [e]⟩
theorem Rep.ext (R : Rep B K L st s) (e : Ext s.heap h') : Rep B K L st { s with heap := h', toks := tk } where
  sh := R.sh'
  ns := let ⟨m', h1, h2⟩ := R.ns; ⟨m', h1.keeps e, fun x v q => let ⟨v', q1, q2⟩ := h2 x v q; ⟨v', q1, q2.grow e.grow⟩⟩
  ob := fun a o q => (R.ob a o q).at e.grow (e a)
  keep := fun b o q => e b o (R.keep b o q)
  kL := R.kL
  kσ := R.kσ
  base := R.base
theorem Rep.toks (R : Rep B K L st s) : Rep B K L st { s with toks := tk } := R.ext (h' := s.heap) (Ext.refl _)
theorem Rep.alloc (R : Rep B K L st s) (e : Ext s.heap h') (hf : s.heap.get? a = none) (ho : ORep h' a o) : Rep B K L ⟨st.m, upd st.σ a o⟩ { s with heap := h', toks := tk } where
  sh := R.sh'
  ns := (R.ext (tk := tk) e).ns
  ob := fun b o' q => by
    unfold upd at q
    dsimp only at q
    split at q
    · rename_i hb; subst hb; cases q; exact ho
    · exact (R.ext (tk := tk) e).ob b o' q
  keep := (R.ext (tk := tk) e).keep
  kL := R.kL
  kσ := fun b o' q => by
    unfold upd
    dsimp only
    rw [if_neg (fun hb => by have := R.keep b o' q; rw [hb, hf] at this; cases this)]
    exact R.kσ b o' q
  base := R.base
theorem Rep.fresh (R : Rep B K L st s) (hf : s.heap.get? a = none) : st.σ a = none := by
  cases e : st.σ a with
  | none => rfl
  | some o => obtain ⟨ob, q⟩ := (R.ob a o e).got; rw [hf] at q; cases q
theorem Rep.growMod {o₀ : AO} (R : Rep B K L st s) (ha : st.σ a = some o₀) (e : ∀ b o, b ≠ a → s.heap.get? b = some o → h'.get? b = some o) : Grow s.heap h' :=
  fun b vs n q => e b _ (fun z => (R.ob a o₀ ha).list_ne_tup (z ▸ q)) q
theorem Rep.mod {o₀ : AO} (R : Rep B K L st s) (ha : st.σ a = some o₀) (e : ∀ b o, b ≠ a → s.heap.get? b = some o → h'.get? b = some o) (ho : ORep h' a o) :
    Rep B K L ⟨st.m, upd st.σ a o⟩ { s with heap := h', toks := tk } where
  sh := R.sh'
  ns := by
    obtain ⟨m', h1, h2⟩ := R.ns
    have hL : L ≠ a := fun z => (R.ob a o₀ ha).ne_ns (z ▸ h1)
    exact ⟨m', h1.at' fun ob q => e L ob hL q, fun x v q => let ⟨v', q1, q2⟩ := h2 x v q; ⟨v', q1, q2.grow (R.growMod ha e)⟩⟩
  ob := fun b o' q => by
    unfold upd at q
    dsimp only at q
    split at q
    · rename_i hb; subst hb; cases q; exact ho
    · rename_i hb; exact (R.ob b o' q).at (R.growMod ha e) fun ob z => e b ob hb z
  keep := fun b o' q => e b o' (fun z => by have := R.kσ b o' q; rw [z, ha] at this; cases this) (R.keep b o' q)
  kL := R.kL
  kσ := fun b o' q => by
    unfold upd
    dsimp only
    rw [if_neg (fun hb => by have := R.kσ b o' q; rw [hb, ha] at this; cases this)]
    exact R.kσ b o' q
  base := R.base
theorem Rep.growL (R : Rep B K L st s) (hs : Heap.SameBut L s.heap h') : Grow s.heap h' := by
  obtain ⟨m', h1, _⟩ := R.ns
  intro b vs n q
  refine (hs.2 b fun z => ?_).trans q
  obtain ⟨o', es, ep, e, d', _⟩ := h1
  have z' := e.symm.trans (z ▸ q); simp at z'; rw [z'] at d'; simp at d'
theorem Rep.setL {x : Str} {v' : Value} {v : V} (R : Rep B K L st s) (hv : VRep s.heap v' v) (hn : ∀ m', s.heap.Ns L m' → h'.Ns L (fun y => if y = x then some v' else m' y)) (hs : Heap.SameBut L s.heap h') :
    Rep B K L ⟨(x, v) :: st.m, st.σ⟩ { s with heap := h', toks := tk } where
  sh := R.sh'
  ns := by
    obtain ⟨m', h1, h2⟩ := R.ns
    refine ⟨_, hn m' h1, fun y u q => ?_⟩
    dsimp only at q ⊢
    rw [List.lookup_cons] at q
    by_cases hy : y = x
    · subst hy
      simp at q
      subst q
      exact ⟨v', by simp, hv.grow (R.growL hs)⟩
    · have hb : (y == x) = false := by simpa using hy
      rw [hb] at q
      obtain ⟨v'', q1, q2⟩ := h2 y u q
      exact ⟨v'', by rw [if_neg hy]; exact q1, q2.grow (R.growL hs)⟩
  ob := fun b o' q => (R.ob b o' q).at (R.growL hs) fun ob z => hs.extBut b ob (fun zz => by
    obtain ⟨m', h1, _⟩ := R.ns
    exact (R.ob b o' q).ne_ns (zz ▸ h1)) z
  keep := fun b o' q => hs.extBut b o' (fun zz => R.kL o' (zz ▸ q)) (R.keep b o' q)
  kL := R.kL
  kσ := R.kσ
  base := R.base

structure Le (st' st : St) : Prop where
  m : ∀ x v, st'.m.lookup x = some v → st.m.lookup x = some v
  σ : ∀ a o, st'.σ a = some o → st.σ a = some o
theorem Le.refl (st : St) : Le st st := ⟨fun _ _ e => e, fun _ _ e => e⟩
theorem Rep.weaken (R : Rep B K L st s) (l : Le st' st) : Rep B K L st' s where
  sh := R.sh
  ns := let ⟨m', h1, h2⟩ := R.ns; ⟨m', h1, fun x v q => h2 x v (l.m x v q)⟩
  ob := fun a o q => R.ob a o (l.σ a o q)
  keep := R.keep
  kL := R.kL
  kσ := fun a o q => by
    cases e : st'.σ a with
    | none => rfl
    | some o' => have := l.σ a o' e; rw [R.kσ a o q] at this; cases this
  base := R.base
end

def Post (B : Bs) (K : Addr → Obj → Prop) (L : Addr) {α β : Type} (R : Heap → α → β → Prop) (Q : β → St → Prop) (h : Heap) (a : α) (s' : Shared) : Prop :=
  ∃ b st', R s'.heap a b ∧ Rep B K L st' s' ∧ Grow h s'.heap ∧ Q b st'

def W (B : Bs) (A : Around) (L : Addr) {α β : Type} (R : Heap → α → β → Prop) (t : Sem α) (st : St) (Q : β → St → Prop) : Prop :=
  ∀ K s, Rep B K L st s → wpAny (model B.prog B.w) A t (Post B K L R Q s.heap) (fun _ _ => False) s

section
variable {B : Bs} {A : Around} {K : Addr → Obj → Prop} {L : Addr} {α β γ δ : Type} {R : Heap → α → β → Prop} {R' : Heap → γ → δ → Prop} {t : Sem α} {st st' : St} {s : Shared} {Q Q' : β → St → Prop}

theorem W.weaken (l : Le st' st) (h : W B A L R t st' Q) : W B A L R t st Q := fun K s r => h K s (r.weaken l)
theorem W.mono (h : W B A L R t st Q) (hq : ∀ b st, Q b st → Q' b st) : W B A L R t st Q' := fun K s r =>
  wpAny_mono (h K s r) (fun _ _ ⟨b, st', e1, e2, e3, e4⟩ => ⟨b, st', e1, e2, e3, hq _ _ e4⟩) fun _ _ e => e
theorem Post.mono {h : Heap} {x : α} (p : Post B K L R Q h x s) {h0 : Heap} (g : Grow h0 h) : Post B K L R Q h0 x s :=
  let ⟨b, st', e1, e2, e3, e4⟩ := p; ⟨b, st', e1, e2, g.trans e3, e4⟩
theorem Post.here {x : α} {b : β} (r : Rep B K L st s) (e : R s.heap x b) (q : Q b st) : Post B K L R Q s.heap x s := ⟨b, st, e, r, Grow.refl _, q⟩

/-- a step of the machine ahead of a rest -/
theorem wbind {t : Sem γ} {Q₁ : γ → Shared → Prop} {T : γ → Shared → Prop} {M : Model} {E : Value → Shared → Prop} (h : wpAny M A t Q₁ E s) (k : ∀ x s', Q₁ x s' → T x s') : wpAny M A t T E s :=
  wpAny_mono h k fun _ _ e => e
end

end Mine
end

/-! ## M1 -/
section
namespace Mine
open PySem PySem.W PyProof.Rows

abbrev WE (B : Bs) (A : Around) (env : Env) (e : Expr) (st : St) (Q : V → St → Prop) : Prop := W B A env.locals VRep (eval e env) st Q
abbrev WT (B : Bs) (A : Around) (env : Env) (e : Expr) (st : St) (Q : Bool → St → Prop) : Prop := W B A env.locals BRep (isTrue e env (eval e env)) st Q
abbrev WS (B : Bs) (A : Around) (env : Env) (c : Stmt) (st : St) (Q : AFlow → St → Prop) : Prop := W B A env.locals FRep (exec c env) st Q
abbrev WB (B : Bs) (A : Around) (env : Env) (c : List Stmt) (st : St) (Q : AFlow → St → Prop) : Prop := W B A env.locals FRep (execs c env) st Q

/-- an operation upon one, two, three values in hand -/
def W1 (B : Bs) (A : Around) (L : Addr) {α β : Type} (R : Heap → α → β → Prop) (f : Value → Sem α) (a : V) (st : St) (Q : β → St → Prop) : Prop :=
  ∀ v K s, Rep B K L st s → VRep s.heap v a → wpAny (model B.prog B.w) A (f v) (Post B K L R Q s.heap) (fun _ _ => False) s
def W2 (B : Bs) (A : Around) (L : Addr) {α β : Type} (R : Heap → α → β → Prop) (f : Value → Value → Sem α) (a b : V) (st : St) (Q : β → St → Prop) : Prop :=
  ∀ v w K s, Rep B K L st s → VRep s.heap v a → VRep s.heap w b → wpAny (model B.prog B.w) A (f v w) (Post B K L R Q s.heap) (fun _ _ => False) s
def W3 (B : Bs) (A : Around) (L : Addr) {α β : Type} (R : Heap → α → β → Prop) (f : Value → Value → Value → Sem α) (a b c : V) (st : St) (Q : β → St → Prop) : Prop :=
  ∀ v w u K s, Rep B K L st s → VRep s.heap v a → VRep s.heap w b → VRep s.heap u c → wpAny (model B.prog B.w) A (f v w u) (Post B K L R Q s.heap) (fun _ _ => False) s
/-- a list of values in hand -/
def WL (B : Bs) (A : Around) (L : Addr) {α β : Type} (R : Heap → α → β → Prop) (f : List Value → Sem α) (as : List V) (st : St) (Q : β → St → Prop) : Prop :=
  ∀ vs K s, Rep B K L st s → VReps s.heap vs as → wpAny (model B.prog B.w) A (f vs) (Post B K L R Q s.heap) (fun _ _ => False) s

section
variable {B : Bs} {A : Around} {env : Env} {st : St} {L : Addr}

theorem Post.int {K : Addr → Obj → Prop} {s : Shared} {i : Int} {t tk : Nat} {Q : V → St → Prop} (r : Rep B K L st s) (h : Q (.int i) st) : Post B K L VRep Q s.heap (.int i t) { s with toks := tk } :=
  ⟨V.int i, st, ⟨t, rfl⟩, r.toks, Grow.refl _, h⟩
theorem E_int {i : Int} {k pos} {Q : V → St → Prop} (h : Q (.int i) st) : WE B A env (.Constant (.int i) k pos) st Q := fun K s r =>
  wpAny_Constant_int (Post.int r h)
theorem E_bool {b : Bool} {k pos} {Q : V → St → Prop} (h : Q (.bool b) st) : WE B A env (.Constant (.bool b) k pos) st Q := fun K s r =>
  wpAny_Constant_bool (Post.here (b := V.bool b) r rfl h)
theorem E_none {k pos} {Q : V → St → Prop} (h : Q .none st) : WE B A env (.Constant .none k pos) st Q := fun K s r =>
  wpAny_Constant_none (Post.here (b := V.none) r rfl h)
theorem E_local {x : Str} {pos : Pos} {v : V} {Q : V → St → Prop} (hv : st.m.lookup x = some v) (h : Q v st)
    (hk : env.scope.kind = .function := by rfl) (hl : env.kindOf x = some .local := by rfl) (hd : (x == ("__debug__" : Str)) = false := by decide) :
    WE B A env (.Name x pos) st Q := fun K s r => by
  obtain ⟨m', h1, h2⟩ := r.ns
  obtain ⟨v', q1, q2⟩ := h2 x v hv
  exact wpAny_Name (wpAny_loadName_local hk hl h1 q1 (Post.here r q2 h)) hd
theorem E_cell {x : Str} {pos : Pos} {c : Addr} {v : V} {Q : V → St → Prop} (hc : env.cells.lookup x = some c) (hv : st.σ c = some (.cell (some v))) (h : Q v st)
    (hk : env.scope.kind = .function := by rfl) (hl : env.kindOf x = some .cell := by rfl) (hd : (x == ("__debug__" : Str)) = false := by decide) :
    WE B A env (.Name x pos) st Q := fun K s r => by
  obtain ⟨v', q1, q2⟩ := r.ob c _ hv
  exact wpAny_Name (wpAny_loadName_cell hk hl hc q1 (Post.here r q2 h)) hd
theorem E_free {x : Str} {pos : Pos} {c : Addr} {v : V} {Q : V → St → Prop} (hc : env.cells.lookup x = some c) (hv : st.σ c = some (.cell (some v))) (h : Q v st)
    (hk : env.scope.kind = .function := by rfl) (hl : env.kindOf x = some .free := by rfl) (hd : (x == ("__debug__" : Str)) = false := by decide)
    (hn : (x == ("__classdict__" : Str)) = false := by decide) :
    WE B A env (.Name x pos) st Q := fun K s r => by
  obtain ⟨v', q1, q2⟩ := r.ob c _ hv
  exact wpAny_Name (wpAny_loadName_free hk hl hc q1 (Post.here r q2 h) hn) hd

theorem E_bin {l op r pos} {Q : V → St → Prop} (h : WE B A env l st fun a st₁ => WE B A env r st₁ fun b st₂ => W2 B A env.locals VRep (binaryOp op) a b st₂ Q) :
    WE B A env (.BinOp l op r pos) st Q := fun K s R =>
  wpAny_BinOp (wbind (h K s R) fun v s₁ ⟨a, st₁, ra, R₁, g₁, h₁⟩ => wbind (h₁ K s₁ R₁) fun w s₂ ⟨b, st₂, rb, R₂, g₂, h₂⟩ =>
    wbind (h₂ v w K s₂ R₂ (ra.grow g₂) rb) fun x s₃ p => p.mono (g₁.trans g₂))
theorem E_cmp {l op r pos} {Q : V → St → Prop} (h : WE B A env l st fun a st₁ => WE B A env r st₁ fun b st₂ => W2 B A env.locals VRep (compareOp op) a b st₂ Q)
    (hm : behindInMarks op r = false := by with_unfolding_all rfl) :
    WE B A env (.Compare l [op] [r] pos) st Q := fun K s R =>
  wpAny_Compare1 (wbind (h K s R) fun v s₁ ⟨a, st₁, ra, R₁, g₁, h₁⟩ => wbind (h₁ K s₁ R₁) fun w s₂ ⟨b, st₂, rb, R₂, g₂, h₂⟩ =>
    wbind (h₂ v w K s₂ R₂ (ra.grow g₂) rb) fun x s₃ p => p.mono (g₁.trans g₂)) hm
/-- a comparison as a test: its answer is a bool -/
theorem T_cmp {l op r pos} {Q : Bool → St → Prop} (h : WE B A env l st fun a st₁ => WE B A env r st₁ fun b st₂ => W2 B A env.locals VRep (compareOp op) a b st₂ fun c st₃ => ∃ t, c = .bool t ∧ Q t st₃)
    (hm : behindInMarks op r = false := by with_unfolding_all rfl) :
    WT B A env (.Compare l [op] [r] pos) st Q := fun K s R =>
  wpAny_isTrue_Compare1 (wbind (h K s R) fun v s₁ ⟨a, st₁, ra, R₁, g₁, h₁⟩ => wbind (h₁ K s₁ R₁) fun w s₂ ⟨b, st₂, rb, R₂, g₂, h₂⟩ =>
    wbind (h₂ v w K s₂ R₂ (ra.grow g₂) rb) fun x s₃ ⟨c, st₃, rc, R₃, g₃, t, e, q⟩ => by
      subst e
      have e' : x = .bool t := rc
      subst e'
      exact wpAny_truthy_bool ⟨t, st₃, rfl, R₃, (g₁.trans g₂).trans g₃, q⟩) hm
/-- a value as a test -/
theorem T_val {e : Expr} {Q : Bool → St → Prop} (h : WE B A env e st fun a st₁ => W1 B A env.locals BRep truthy a st₁ Q)
    (he : isTrue e env (eval e env) = (do let v ← eval e env; standAt e.pos; holding [v] (truthy v)) := by rfl) : WT B A env e st Q := fun K s R =>
  wpAny_isTrue_value (wbind (h K s R) fun v s₁ ⟨a, st₁, ra, R₁, g₁, h₁⟩ => wbind (h₁ v K s₁ R₁ ra) fun x s₃ p => p.mono g₁) he
theorem T_not {x : Expr} {pos : Pos} {Q : Bool → St → Prop} (h : WT B A env x st fun b st₁ => Q (!b) st₁) : WT B A env (.UnaryOp .Not x pos) st Q := fun K s R =>
  wpAny_isTrue_Not (wbind (h K s R) fun v s₁ ⟨a, st₁, ra, R₁, g₁, h₁⟩ => ⟨!v, st₁, rfl, R₁, g₁, by have : v = a := ra; subst this; exact h₁⟩)
theorem E_ifexp {test body orelse : Expr} {pos : Pos} {Q : V → St → Prop} (h : WT B A env test st fun b st₁ => if b then WE B A env body st₁ Q else WE B A env orelse st₁ Q) :
    WE B A env (.IfExp test body orelse pos) st Q := fun K s R =>
  wpAny_IfExp (wbind (h K s R) fun v s₁ ⟨a, st₁, ra, R₁, g₁, h₁⟩ => by
    have : v = a := ra
    subst this
    cases v with
    | true => exact wbind ((show WE B A env body st₁ Q from by simpa using h₁) K s₁ R₁) fun x s₃ p => p.mono g₁
    | false => exact wbind ((show WE B A env orelse st₁ Q from by simpa using h₁) K s₁ R₁) fun x s₃ p => p.mono g₁)

theorem B_nil {Q : AFlow → St → Prop} (h : Q .next st) : WB B A env [] st Q := fun K s R => wpAny_execs_nil ⟨.next, st, trivial, R, Grow.refl _, h⟩
def Then (B : Bs) (A : Around) (env : Env) (rest : List Stmt) (Q : AFlow → St → Prop) : AFlow → St → Prop
  | .next, st => WB B A env rest st Q
  | f, st => Q f st
theorem B_cons {c : Stmt} {rest : List Stmt} {Q : AFlow → St → Prop} (h : WS B A env c st (Then B A env rest Q)) : WB B A env (c :: rest) st Q := fun K s R =>
  wpAny_execs_cons (wbind (h K s R) fun f s₁ ⟨a, st₁, ra, R₁, g₁, h₁⟩ => by
    cases f <;> cases a <;> first | exact ra.elim | skip
    · exact wbind (h₁ K s₁ R₁) fun x s₃ p => p.mono g₁
    · exact ⟨_, st₁, ra, R₁, g₁, h₁⟩
    · exact ⟨_, st₁, ra, R₁, g₁, h₁⟩
    · exact ⟨_, st₁, ra, R₁, g₁, h₁⟩)
theorem S_if {test : Expr} {body orelse : List Stmt} {pos : Pos} {Q : AFlow → St → Prop} (h : WT B A env test st fun b st₁ => if b then WB B A env body st₁ Q else WB B A env orelse st₁ Q) :
    WS B A env (.If test body orelse pos) st Q := fun K s R =>
  wpAny_If (wbind (h K s R) fun v s₁ ⟨a, st₁, ra, R₁, g₁, h₁⟩ => by
    have : v = a := ra
    subst this
    cases v with
    | true => exact wbind ((show WB B A env body st₁ Q from by simpa using h₁) K s₁ R₁) fun x s₃ p => p.mono g₁
    | false => exact wbind ((show WB B A env orelse st₁ Q from by simpa using h₁) K s₁ R₁) fun x s₃ p => p.mono g₁)
theorem S_ret {e : Expr} {pos : Pos} {Q : AFlow → St → Prop} (h : WE B A env e st fun v st₁ => Q (.ret v) st₁) : WS B A env (.Return (some e) pos) st Q := fun K s R =>
  wpAny_Return_some (wbind (h K s R) fun v s₁ ⟨a, st₁, ra, R₁, g₁, h₁⟩ => ⟨.ret a, st₁, ra, R₁, g₁, h₁⟩)
theorem S_brk {pos : Pos} {Q : AFlow → St → Prop} (h : Q .brk st) : WS B A env (.Break pos) st Q := fun K s R => wpAny_Break ⟨.brk, st, trivial, R, Grow.refl _, h⟩
theorem S_cont {pos : Pos} {Q : AFlow → St → Prop} (h : Q .cont st) : WS B A env (.Continue pos) st Q := fun K s R => wpAny_Continue ⟨.cont, st, trivial, R, Grow.refl _, h⟩

theorem W1_store {x : Str} {v : V} {Q : Unit → St → Prop} (h : Q () ⟨(x, v) :: st.m, st.σ⟩) (hl : env.kindOf x = some .local := by rfl)
    (hp : (env.scope.kind == .class || (env.scope.kind == .module && env.locals != env.globals)) = false := by rfl) : W1 B A env.locals URep (storeName env x) v st Q := fun v' K s R rv => by
  obtain ⟨m', h1, h2⟩ := R.ns
  refine wpAny_storeName_local hl h1 (fun h' hn hs => ?_) hp
  refine ⟨(), _, trivial, R.setL rv (fun m'' h1' => ?_) hs, R.growL hs, h⟩
  obtain ⟨o, es, ep, e, r⟩ := hn
  refine ⟨o, es, ep, e, r.1, r.2.1, fun y => ?_⟩
  rw [r.2.2 y]
  show (if y = x then some v' else m' y) = (if y = x then some v' else m'' y)
  rw [h1'.agree h1 y]
theorem W1_storeCell {x : Str} {c : Addr} {v : V} {v₀ : Option V} {Q : Unit → St → Prop} (hc : env.cells.lookup x = some c) (hv : st.σ c = some (.cell v₀)) (h : Q () ⟨st.m, upd st.σ c (.cell (some v))⟩)
    (hl : env.kindOf x = some .cell := by rfl) (hk : env.scope.kind = .function := by rfl) : W1 B A env.locals URep (storeName env x) v st Q := fun v' K s R rv => by
  have hcell : ∃ u, s.heap.IsCell c u := by
    have := R.ob c _ hv
    cases v₀ with
    | none => exact ⟨_, this⟩
    | some y => obtain ⟨v, q, _⟩ := this; exact ⟨_, q⟩
  obtain ⟨u, hu⟩ := hcell
  refine wpAny_storeName_cell hk hl hc hu (fun h' hn hs => ?_)
  have e : ∀ b o, b ≠ c → s.heap.get? b = some o → h'.get? b = some o := fun b o hb q => hs.extBut b o hb q
  exact ⟨(), _, trivial, R.mod (tk := s.toks) (o := .cell (some v)) hv e ⟨_, hn, rv.grow (R.growMod hv e)⟩, R.growMod hv e, h⟩
theorem S_assign {x : Str} {pos' : Pos} {value : Expr} {pos : Pos} {Q : AFlow → St → Prop} (h : WE B A env value st fun v st₁ => W1 B A env.locals URep (storeName env x) v st₁ fun _ st₂ => Q .next st₂)
    (hs : swapsWith value (some (.Name x pos')) pos.line env = pure false := by rfl) : WS B A env (.Assign [.Name x pos'] value pos) st Q := fun K s R =>
  wpAny_Assign_Name (wbind (h K s R) fun v s₁ ⟨a, st₁, ra, R₁, g₁, h₁⟩ => wbind (h₁ v K s₁ R₁ ra) fun x s₃ ⟨_, st₂, _, R₂, g₂, h₂⟩ => ⟨.next, st₂, trivial, R₂, g₁.trans g₂, h₂⟩) hs
theorem S_aug {x : Str} {pos' : Pos} {op : Operator} {value : Expr} {pos : Pos} {Q : AFlow → St → Prop} {v : V} (hv : st.m.lookup x = some v)
    (h : WE B A env value st fun b st₁ => W2 B A env.locals VRep (inplaceOp op) v b st₁ fun c st₂ => W1 B A env.locals URep (storeName env x) c st₂ fun _ st₃ => Q .next st₃)
    (hk : env.scope.kind = .function := by rfl) (hl : env.kindOf x = some .local := by rfl) : WS B A env (.AugAssign (.Name x pos') op value pos) st Q := fun K s R => by
  obtain ⟨m', h1, h2⟩ := R.ns
  obtain ⟨v', q1, q2⟩ := h2 x v hv
  refine wpAny_AugAssign_Name (wpAny_loadName_local hk hl h1 q1 ?_)
  exact wbind (h K s R) fun w s₁ ⟨a, st₁, ra, R₁, g₁, h₁⟩ => wbind (h₁ v' w K s₁ R₁ (q2.grow g₁) ra) fun u s₂ ⟨b, st₂, rb, R₂, g₂, h₂⟩ =>
    wbind (h₂ u K s₂ R₂ rb) fun x s₃ ⟨_, st₃, _, R₃, g₃, h₃⟩ => ⟨.next, st₃, trivial, R₃, (g₁.trans g₂).trans g₃, h₃⟩
theorem S_setItem {o i : Expr} {pos' : Pos} {value : Expr} {pos : Pos} {Q : AFlow → St → Prop} (h : WE B A env value st fun v st₁ => WE B A env o st₁ fun ov st₂ => WE B A env i st₂ fun iv st₃ =>
      W3 B A env.locals URep setItem ov iv v st₃ fun _ st₄ => Q .next st₄)
    (hs : swapsWith value (some (.Subscript o i pos')) pos.line env = pure false := by rfl) : WS B A env (.Assign [.Subscript o i pos'] value pos) st Q := fun K s R =>
  wpAny_Assign_Subscript (wbind (h K s R) fun v s₁ ⟨a, st₁, ra, R₁, g₁, h₁⟩ => wbind (h₁ K s₁ R₁) fun w s₂ ⟨b, st₂, rb, R₂, g₂, h₂⟩ => wbind (h₂ K s₂ R₂) fun u s₃ ⟨c, st₃, rc, R₃, g₃, h₃⟩ =>
    wbind (h₃ w u v K s₃ R₃ (rb.grow g₃) rc (ra.grow (g₂.trans g₃))) fun x s₄ ⟨_, st₄, _, R₄, g₄, h₄⟩ => ⟨.next, st₄, trivial, R₄, ((g₁.trans g₂).trans g₃).trans g₄, h₄⟩) hs

section
variable {i j : Int} {Q : V → St → Prop}
theorem add_ii (h : Q (.int (i + j)) st) : W2 B A L VRep (binaryOp .Add) (.int i) (.int j) st Q := fun v w K s R ⟨t, e⟩ ⟨u, e'⟩ => by
  subst e e'; exact add_int (Post.int R h)
theorem sub_ii (h : Q (.int (i - j)) st) : W2 B A L VRep (binaryOp .Sub) (.int i) (.int j) st Q := fun v w K s R ⟨t, e⟩ ⟨u, e'⟩ => by
  subst e e'; exact sub_int (Post.int R h)
theorem mul_ii (h : Q (.int (i * j)) st) (hi : Builtin.Int.intBits i ≤ 64 := by decide) : W2 B A L VRep (binaryOp .Mult) (.int i) (.int j) st Q := fun v w K s R ⟨t, e⟩ ⟨u, e'⟩ => by
  subst e e'; exact mul_int (Post.int R h) (IntMulOk.of_left hi)
theorem div_ii (h : Q (.int (i / j)) st) (hj : 0 < j := by decide) (hp : Builtin.divisionGoesByPylong i j = false := by exact PyProof.noPylong_of_log2 (by decide +kernel)) :
    W2 B A L VRep (binaryOp .FloorDiv) (.int i) (.int j) st Q := fun v w K s R ⟨t, e⟩ ⟨u, e'⟩ => by
  subst e e'; exact floordiv_int (by omega) (by rw [Int.fdiv_eq_ediv_of_nonneg _ (by omega)]; exact Post.int R h) (Or.inl hp)
theorem mod_ii (h : Q (.int (i % j)) st) (hj : 0 < j := by decide) : W2 B A L VRep (binaryOp .Mod) (.int i) (.int j) st Q := fun v w K s R ⟨t, e⟩ ⟨u, e'⟩ => by
  subst e e'; exact mod_int' (by omega) (by rw [Int.fmod_eq_emod_of_nonneg _ (by omega)]; exact Post.int R h)
theorem shr_i1 (h0 : 0 ≤ i) (h : Q (.int (i / 2)) st) : W2 B A L VRep (binaryOp .RShift) (.int i) (.int 1) st Q := fun v w K s R ⟨t, e⟩ ⟨u, e'⟩ => by
  subst e e'; exact wpAny_rshift1_int h0 (Post.int R h)
theorem iadd_ii (h : Q (.int (i + j)) st) : W2 B A L VRep (inplaceOp .Add) (.int i) (.int j) st Q := fun v w K s R ⟨t, e⟩ ⟨u, e'⟩ => by
  subst e e'; exact iadd_int (Post.int R h)
theorem lt_ii (h : Q (.bool (decide (i < j))) st) : W2 B A L VRep (compareOp .Lt) (.int i) (.int j) st Q := fun v w K s R ⟨t, e⟩ ⟨u, e'⟩ => by
  subst e e'; exact lt_int (Post.here (b := V.bool (decide (i < j))) R rfl h)
theorem gt_ii (h : Q (.bool (decide (j < i))) st) : W2 B A L VRep (compareOp .Gt) (.int i) (.int j) st Q := fun v w K s R ⟨t, e⟩ ⟨u, e'⟩ => by
  subst e e'; exact gt_int (Post.here (b := V.bool (decide (j < i))) R rfl h)
theorem ge_ii (h : Q (.bool (decide (j ≤ i))) st) : W2 B A L VRep (compareOp .GtE) (.int i) (.int j) st Q := fun v w K s R ⟨t, e⟩ ⟨u, e'⟩ => by
  subst e e'; exact ge_int (Post.here (b := V.bool (decide (j ≤ i))) R rfl h)
theorem le_ii (h : Q (.bool (decide (i ≤ j))) st) : W2 B A L VRep (compareOp .LtE) (.int i) (.int j) st Q := fun v w K s R ⟨t, e⟩ ⟨u, e'⟩ => by
  subst e e'; exact le_int (Post.here (b := V.bool (decide (i ≤ j))) R rfl h)
theorem eq_ii (h : Q (.bool (decide (i = j))) st) : W2 B A L VRep (compareOp .Eq) (.int i) (.int j) st Q := fun v w K s R ⟨t, e⟩ ⟨u, e'⟩ => by
  subst e e'; exact eq_int (Post.here (b := V.bool (decide (i = j))) R (by show _ = _; congr 1) h)
theorem is_none {v : V} {b : Bool} (hb : b = (match v with | .none => true | _ => false)) (h : Q (.bool b) st) : W2 B A L VRep (compareOp .Is) v .none st Q := fun u w K s R e e' => by
  have e' : w = .none := e'
  subst e'
  subst hb
  cases v with
  | none => obtain rfl : u = .none := e; exact wpAny_is_plain rfl (Post.here (b := V.bool true) R rfl h)
  | bool c => obtain rfl : u = .bool c := e; exact wpAny_is_plain rfl (Post.here (b := V.bool false) R rfl h)
  | int i => obtain ⟨t, rfl⟩ := e; exact wpAny_is_plain rfl (Post.here (b := V.bool false) R rfl h)
  | tup is => obtain ⟨a, vs, n, rfl, _⟩ := e; exact wpAny_is_plain rfl (Post.here (b := V.bool false) R rfl h)
  | ref a => obtain rfl : u = .ref a := e; exact wpAny_is_plain rfl (Post.here (b := V.bool false) R rfl h)
theorem isNot_none {v : V} {b : Bool} (hb : b = (match v with | .none => false | _ => true)) (h : Q (.bool b) st) : W2 B A L VRep (compareOp .IsNot) v .none st Q := fun u w K s R e e' => by
  have e' : w = .none := e'
  subst e'
  subst hb
  cases v with
  | none => obtain rfl : u = .none := e; exact wpAny_isNot_plain rfl (Post.here (b := V.bool false) R rfl h)
  | bool c => obtain rfl : u = .bool c := e; exact wpAny_isNot_plain rfl (Post.here (b := V.bool true) R rfl h)
  | int i => obtain ⟨t, rfl⟩ := e; exact wpAny_isNot_plain rfl (Post.here (b := V.bool true) R rfl h)
  | tup is => obtain ⟨a, vs, n, rfl, _⟩ := e; exact wpAny_isNot_plain rfl (Post.here (b := V.bool true) R rfl h)
  | ref a => obtain rfl : u = .ref a := e; exact wpAny_isNot_plain rfl (Post.here (b := V.bool true) R rfl h)
end
end
end Mine
end

/-! ## M2 -/
section
set_option maxRecDepth 100000
namespace Mine
open PySem PySem.W PyProof.Rows

theorem line_ok {n : Nat} (h : n ≤ 1048576) : n ≤ sizeLine := by rw [sizeLine_eq]; omega

section
variable {B : Bs} {A : Around} {env : Env} {st : St} {L : Addr}

theorem T_and_nil {pos : Pos} {Q : Bool → St → Prop} (h : Q true st) : WT B A env (.BoolOp .And [] pos) st Q := fun K s R => wpAny_isTrue_BoolOp (wpAny_allTrue_And_nil ⟨true, st, rfl, R, Grow.refl _, h⟩)
theorem T_or_nil {pos : Pos} {Q : Bool → St → Prop} (h : Q false st) : WT B A env (.BoolOp .Or [] pos) st Q := fun K s R => wpAny_isTrue_BoolOp (wpAny_allTrue_Or_nil ⟨false, st, rfl, R, Grow.refl _, h⟩)
theorem T_and {x : Expr} {rest : List Expr} {pos : Pos} {Q : Bool → St → Prop} (h : WT B A env x st fun b st₁ => if b then WT B A env (.BoolOp .And rest pos) st₁ Q else Q false st₁) :
    WT B A env (.BoolOp .And (x :: rest) pos) st Q := fun K s R =>
  wpAny_isTrue_BoolOp (wpAny_allTrue_And_cons (wbind (h K s R) fun v s₁ ⟨a, st₁, ra, R₁, g₁, h₁⟩ => by
    have : v = a := ra
    subst this
    cases v with
    | true =>
      have h₂ : WT B A env (.BoolOp .And rest pos) st₁ Q := by simpa using h₁
      have h₃ : wpAny (model B.prog B.w) A (allTrue .And rest env) (Post B K env.locals BRep Q s₁.heap) (fun _ _ => False) s₁ := by
        have := h₂ K s₁ R₁
        rwa [arm_isTrue_BoolOp] at this
      simp only [if_true]
      exact wbind h₃ fun x s₃ p => p.mono g₁
    | false =>
      simp only [Bool.false_eq_true, if_false] at h₁ ⊢
      exact ⟨false, st₁, rfl, R₁, g₁, h₁⟩))
theorem T_or {x : Expr} {rest : List Expr} {pos : Pos} {Q : Bool → St → Prop} (h : WT B A env x st fun b st₁ => if b then Q true st₁ else WT B A env (.BoolOp .Or rest pos) st₁ Q) :
    WT B A env (.BoolOp .Or (x :: rest) pos) st Q := fun K s R =>
  wpAny_isTrue_BoolOp (wpAny_allTrue_Or_cons (wbind (h K s R) fun v s₁ ⟨a, st₁, ra, R₁, g₁, h₁⟩ => by
    have : v = a := ra
    subst this
    cases v with
    | false =>
      have h₂ : WT B A env (.BoolOp .Or rest pos) st₁ Q := by simpa using h₁
      have h₃ : wpAny (model B.prog B.w) A (allTrue .Or rest env) (Post B K env.locals BRep Q s₁.heap) (fun _ _ => False) s₁ := by
        have := h₂ K s₁ R₁
        rwa [arm_isTrue_BoolOp] at this
      simp only [Bool.false_eq_true, if_false]
      exact wbind h₃ fun x s₃ p => p.mono g₁
    | true =>
      simp only [if_true] at h₁ ⊢
      exact ⟨true, st₁, rfl, R₁, g₁, h₁⟩))

theorem E_sub {value slice : Expr} {pos : Pos} {Q : V → St → Prop} (h : WE B A env value st fun o st₁ => WE B A env slice st₁ fun i st₂ => W2 B A env.locals VRep (subscriptTail value slice) o i st₂ Q) :
    WE B A env (.Subscript value slice pos) st Q := fun K s R =>
  Subscript_ (wbind (h K s R) fun v s₁ ⟨a, st₁, ra, R₁, g₁, h₁⟩ => wbind (h₁ K s₁ R₁) fun w s₂ ⟨b, st₂, rb, R₂, g₂, h₂⟩ =>
    wbind (h₂ v w K s₂ R₂ (ra.grow g₂) rb) fun x s₃ p => p.mono (g₁.trans g₂))

/-- the place that an index names -/
def place (k : Int) (n : Nat) : Nat := if 0 ≤ k then k.toNat else (k + n).toNat

theorem item_list {value slice : Expr} {l : Addr} {xs : List V} {k : Int} {x : V} {Q : V → St → Prop} (hl : st.σ l = some (.list xs)) (hk : -(xs.length : Int) ≤ k ∧ k < xs.length) (hx : xs[place k xs.length]? = some x) (h : Q x st)
    (hs : ∀ u, subscripted slice false (.ref l) (.int k u) = operate [.ref l, .int k u] (getItem (.ref l) (.int k u)) := by intro u; with_unfolding_all rfl) :
    W2 B A L VRep (subscriptTail value slice) (.ref l) (.int k) st Q := fun v w K s R e ⟨u, e'⟩ => by
  obtain rfl : v = .ref l := e
  subst e'
  obtain ⟨vs, n, hL, hv, hz⟩ := R.ob l _ hl
  obtain ⟨y, hy, hyr⟩ := hv.get hx
  have hlen : vs.length = xs.length := hv.length
  refine tail_any hL.isList.typeIs slot_list_getitem.lookup ?_ (hs u)
  unfold place at hy
  by_cases h0 : 0 ≤ k
  · rw [if_pos h0] at hy
    exact wpAny_getItem_list hL.isList h0 (by omega) (by simpa using hy) (Post.here R hyr h)
  · rw [if_neg h0] at hy
    exact wpAny_getItem_list_neg hL.isList (by omega) (by simp [hlen]; omega) (by omega) (by simpa [hlen] using hy) (Post.here R hyr h)
theorem IsT.isTup {h : Heap} {a : Addr} {items : Array Value} {n : Nat} (x : IsT h a items n) : IsTup h a items := ⟨_, x, rfl, n, rfl⟩
theorem ints_get {vs : List Value} {ns : List Int} (hi : IntsAre vs ns) : ∀ {i : Nat} {n : Int}, ns[i]? = some n → ∃ t, vs[i]? = some (.int n t) := by
  induction hi with
  | nil => intro i n e; simp at e
  | cons m t _ ih =>
    intro i n e
    cases i with
    | zero => simp at e; subst e; exact ⟨t, by simp⟩
    | succ i => simp at e; simpa using ih e
theorem item_tup {value slice : Expr} {is : List Int} {k : Int} {x : Int} {Q : V → St → Prop} (h0 : 0 ≤ k) (hk : k < 1000) (hx : is[k.toNat]? = some x) (h : Q (.int x) st)
    (hs : ∀ t u, subscripted slice false (.ref t) (.int k u) = operate [.ref t, .int k u] (getItem (.ref t) (.int k u)) := by intro t u; with_unfolding_all rfl) :
    W2 B A L VRep (subscriptTail value slice) (.tup is) (.int k) st Q := fun v w K s R ⟨a, vs, n, e1, e2, e3⟩ ⟨u, e'⟩ => by
  subst e1 e'
  obtain ⟨t, ht⟩ := ints_get e3 hx
  have hlt : k.toNat < vs.length := by
    rw [List.getElem?_eq_some_iff] at ht
    exact ht.1
  refine item_tupleT (j := k.toNat) (IsT.isTup e2) (by omega) (by omega) ?_ ht ?_ (hs a u)
  · unfold seqIndex?
    obtain ⟨j, rfl⟩ := Int.eq_ofNat_of_zero_le h0
    simp at hlt ⊢
    omega
  · exact Post.here (b := V.int x) R ⟨t, rfl⟩ h

theorem len_l {l : Addr} {xs : List V} {Q : V → St → Prop} (hl : st.σ l = some (.list xs)) (h : Q (.int xs.length) st) : WL B A L VRep (fun vs => call (.builtin "len") vs) [.ref l] st Q := fun vs K s R e => by
  cases e with
  | cons e1 e2 =>
    cases e2
    obtain rfl := (show _ = _ from e1)
    obtain ⟨vs, n, hL, hv, hz⟩ := R.ob l _ hl
    have hlen : vs.length = xs.length := hv.length
    refine len_list hL.isList (by simp; omega) ?_
    simp only [List.size_toArray, hlen]
    exact Post.int R h
theorem truthy_l {l : Addr} {xs : List V} {Q : Bool → St → Prop} (hl : st.σ l = some (.list xs)) (h : Q (!xs.isEmpty) st) : W1 B A L BRep truthy (.ref l) st Q := fun v K s R e => by
  obtain rfl : v = .ref l := e
  obtain ⟨vs, n, hL, hv, hz⟩ := R.ob l _ hl
  have hlen : vs.length = xs.length := hv.length
  refine wpAny_truthy_list hL.isList (by simp; omega) ?_
  refine ⟨!xs.isEmpty, st, ?_, R.toks, Grow.refl _, h⟩
  show (!vs.toArray.isEmpty) = !xs.isEmpty
  cases xs <;> cases vs <;> simp at hlen ⊢
theorem truthy_b {b : Bool} {Q : Bool → St → Prop} (h : Q b st) : W1 B A L BRep truthy (.bool b) st Q := fun v K s R e => by
  obtain rfl : v = .bool b := e
  exact wpAny_truthy_bool ⟨b, st, rfl, R, Grow.refl _, h⟩

theorem set_list {l : Addr} {xs : List V} {k : Int} {x : V} {Q : Unit → St → Prop} (hl : st.σ l = some (.list xs)) (h0 : 0 ≤ k) (hk : k < xs.length) (h : Q () ⟨st.m, upd st.σ l (.list (xs.set k.toNat x))⟩) :
    W3 B A L URep setItem (.ref l) (.int k) x st Q := fun v w y K s R e ⟨t, e'⟩ ry => by
  obtain rfl : v = .ref l := e
  subst e'
  obtain ⟨vs, n, hL, hv, hz⟩ := R.ob l _ hl
  have hlen : vs.length = xs.length := hv.length
  unfold setItem
  try with_reducible refine wpAny_holding ?_
  first | refine wpAny_bind (wpAny_pure ?_) | skip
  refine wpAny_bind (wpAny_sequenceKey hL.isList.typeIs (by decide) ?_)
  refine wpAny_bind (wpAny_callSpecial?_slot (name := Str.ofString "__setitem__") hL.isList.typeIs slot_list_setitem
    (wpAny_call_entry slot_list_setitem hL.isList.typeIs entry_list_setitem ?_ (args_list_setitem _ _ _)))
  show wpAny _ _ (Builtin.List.listSubscript? (.int k t) >>= _) _ _ s
  refine wpAny_bind (wpAny_listSubscript_int (fitsIndex_of h0 (by omega)) ?_)
  obtain ⟨j, rfl⟩ := Int.eq_ofNat_of_zero_le h0
  have hj : j < vs.toArray.size := by simp; omega
  have hx' : vs.toArray[j]? = some vs.toArray[j] := Array.getElem?_eq_getElem hj
  show wpAny _ _ ((seqItemAt l j >>= fun r => pure (r.map (j, ·))) >>= _) _ _ s
  refine wpAny_bind (wpAny_bind (wpAny_seqItemAt hL rfl (wpAny_pure ?_)))
  rw [hx']
  show wpAny _ _ (setSeqItemAt l j y >>= _) _ _ s
  have e : ∀ b o, b ≠ l → s.heap.get? b = some o → (s.heap.update l (Obj.mapSeq (·.setIfInBounds j y))).get? b = some o := fun b o hb q => (Heap.get?_update_ne _ _ _ _ hb).trans q
  have fin : Post B K L URep Q s.heap () { s with heap := s.heap.update l (Obj.mapSeq (·.setIfInBounds j y)) } := by
    refine ⟨(), _, trivial, R.mod (tk := s.toks) (o := .list (xs.set j x)) hl e ?_, R.growMod hl e, h⟩
    have q := IsL.update hL (·.setIfInBounds j y)
    rw [List.setIfInBounds_toArray] at q
    exact ⟨vs.set j y, _, q, (hv.set ry j).grow (R.growMod hl e), by simpa using hz⟩
  refine wpAny_bind (wpAny_setSeqItemAt hL rfl ?_)
  first
    | exact wpAny_bind (wpAny_pure (wpAny_pure ⟨.none, rfl, wpAny_pure fin⟩))
    | exact wpAny_pure ⟨.none, rfl, wpAny_pure fin⟩

theorem E_append {o elt : Expr} {apos pos : Pos} {Q : V → St → Prop}
    (h : WE B A env o st fun ov st₁ => ∃ l, ov = .ref l ∧ (∃ ys, st₁.σ l = some (.list ys)) ∧ WE B A env elt st₁ fun x st₂ => ∃ xs, st₂.σ l = some (.list xs) ∧ xs.length < 1048576 ∧ Q .none ⟨st₂.m, upd st₂.σ l (.list (xs ++ [x]))⟩)
    (hbase : attributeBase o "append" env (eval o env) = eval o env := by rfl)
    (hfew : ((backTo pos (starEach [elt] env)).all (fun x => !x.1) && (backToKw pos (keywordEach [] env)).all (fun x => x.1.isSome)
      && decide (([elt] : List Expr).length + ([] : List Keyword).length + (if ([] : List Keyword).isEmpty then 0 else 1) < 30)) = true := by rfl)
    (hline : (apos.endLine == pos.line) = true := by rfl)
    (htrees : backTo pos (starEach [elt] env) = [(false, eval elt env)] := by rfl) :
    WE B A env (.Call (.Attribute o "append" apos) [elt] [] pos) st Q := fun K s R => by
  refine wpAny_Call_append hbase hfew hline htrees (wbind (h K s R) fun v s₁ ⟨a, st₁, ra, R₁, g₁, l, e, ⟨ys, hys⟩, h₁⟩ => ?_)
  subst e
  obtain rfl : v = .ref l := ra
  obtain ⟨vs, n, hL, hv, hz⟩ := R₁.ob l _ hys
  refine ⟨l, vs.toArray, rfl, ⟨_, n, hL, rfl, rfl, rfl⟩, wbind (h₁ K s₁ R₁) fun y s₂ ⟨x, st₂, rx, R₂, g₂, xs, hxs, hlt, h₂⟩ => ?_⟩
  obtain ⟨us, n', hL', hv', hz'⟩ := R₂.ob l _ hxs
  have hlen : us.length = xs.length := hv'.length
  have ee : ∀ b o, b ≠ l → s₂.heap.get? b = some o → (s₂.heap.update l (Obj.mapSeq (·.push y))).get? b = some o := fun b o hb q => (Heap.get?_update_ne _ _ _ _ hb).trans q
  refine wpAny_call_entry slot_list_append hL'.isList.typeIs entry_list_append ?_ (args_list_append _ _)
  show wpAny _ _ (updateSeq l (·.push y) >>= fun _ => ret .none) _ _ s₂
  refine wpAny_bind (wpAny_updateSeq hL' rfl (wpAny_pure ⟨.none, rfl, ?_⟩) (hz := line_ok (by simp; omega)) (_hz' := by
    have := line_ok (n := us.length) (by omega)
    simp; omega))
  refine ⟨V.none, _, rfl, R₂.mod (tk := s₂.toks) (o := .list (xs ++ [x])) hxs ee ?_, (g₁.trans g₂).trans (R₂.growMod hxs ee), h₂⟩
  have q := IsL.update hL' (·.push y)
  rw [List.push_toArray] at q
  exact ⟨us ++ [y], _, q, (hv'.append (.cons rx .nil)).grow (R₂.growMod hxs ee), by simp; omega⟩

theorem E_pop {o : Expr} {apos pos : Pos} {Q : V → St → Prop}
    (h : WE B A env o st fun ov st₁ => ∃ l xs x, ov = .ref l ∧ st₁.σ l = some (.list (xs ++ [x])) ∧ Q x ⟨st₁.m, upd st₁.σ l (.list xs)⟩)
    (hbase : attributeBase o "pop" env (eval o env) = eval o env := by rfl)
    (hline : (apos.endLine == pos.line) = true := by rfl) :
    WE B A env (.Call (.Attribute o "pop" apos) [] [] pos) st Q := fun K s R => by
  refine wpAny_Call_method hbase rfl hline F.plainAttrs_list F.slot_list_pop F.type_list_pop (wbind (h K s R) fun v s₁ ⟨a, st₁, ra, R₁, g₁, l, xs, x, e, hxs, h₁⟩ => ?_)
  subst e
  obtain rfl : v = .ref l := ra
  obtain ⟨vs, n, hL, hv, hz⟩ := R₁.ob l _ hxs
  have hlen : vs.length = (xs ++ [x]).length := hv.length
  obtain ⟨y, hy, ry⟩ := hv.get (i := xs.length) (y := x) (by simp)
  have hlen' : vs.length = xs.length + 1 := by simpa using hlen
  refine ⟨hL.isList.typeIs, fun a e => ?_, ?_⟩
  · cases e; exact ⟨_, hL, rfl⟩
  have ee : ∀ b o, b ≠ l → s₁.heap.get? b = some o → (s₁.heap.update l (Obj.mapSeq fun xs => xs.eraseIdxIfInBounds (vs.toArray.size - 1))).get? b = some o := fun b o hb q => (Heap.get?_update_ne _ _ _ _ hb).trans q
  refine P.pop_list hL (y := y) (by rw [List.size_toArray, hlen', List.getElem?_toArray]; exact hy) ?_ (line_ok (by simp; omega))
  refine ⟨x, _, ry.grow (R₁.growMod hxs ee), R₁.mod (tk := s₁.toks) (o := .list xs) hxs ee ?_, g₁.trans (R₁.growMod hxs ee), h₁⟩
  have q := IsL.update hL (fun xs => xs.eraseIdxIfInBounds (vs.toArray.size - 1))
  have e2 : vs.toArray.eraseIdxIfInBounds (vs.toArray.size - 1) = vs.dropLast.toArray := by
    simp [Array.eraseIdxIfInBounds, hlen', List.dropLast_eq_take, List.eraseIdx_eq_take_drop_succ]
  rw [e2] at q
  have q2 := (hv.dropLast).grow (R₁.growMod hxs ee)
  rw [List.dropLast_concat] at q2
  exact ⟨vs.dropLast, _, q, q2, by simp at hz; omega⟩
end
end Mine
end

/-! ## M3 -/
section
set_option maxRecDepth 100000
namespace Mine
open PySem PySem.W PyProof.Rows

structure Ok (k : Nat) (A : Around) : Prop where
  hd : A.handled = none
  dp : A.depth + k < 1000
  un : A.units + 10 * k < 9000
theorem Ok.deeper {k : Nat} {A : Around} (h : Ok (k + 1) A) (env : Env) : Ok k (A.deeper env) :=
  ⟨h.hd, by have := h.dp; show A.depth + 1 + k < 1000; omega, by have := h.un; show A.units + 3 + 10 * k < 9000; omega⟩
theorem Ok.mono {k j : Nat} {A : Around} (h : Ok k A) (hj : j ≤ k) : Ok j A := ⟨h.hd, by have := h.dp; omega, by have := h.un; omega⟩
theorem Ok.line {k : Nat} {A : Around} (h : Ok k A) : A.units < cLine := by have := h.un; show A.units < 9900; omega

structure BOk (B : Bs) : Prop where
  g : B.hb.Ns mainGlobals B.mg
  b : B.hb.Ns builtinsNs B.mb
  builtins : ∀ x : Str, x ≠ "__name__" → B.mb x = bootBuiltins x
  nolimit : B.hb.NoLimit

section
variable {B : Bs} {K K' : Addr → Obj → Prop} {L : Addr} {st st' : St} {s : Shared} {h' : Heap} {tk : Nat} {a : Addr} {o : AO}
theorem ORep.ne_fields {h : Heap} {a : Addr} {o : AO} (x : ORep h a o) {ob : Obj} (e : h.get? a = some ob) {fs : Array Value} (d : ob.data = .fields fs) : False := by
  match o, x with
  | .list xs, ⟨vs', n', e', _⟩ => have q := e.symm.trans e'; simp at q; rw [q] at d; simp at d
  | .cell Option.none, ⟨o, e', d'⟩ => have q := e.symm.trans e'; simp at q; rw [← q, d] at d'; simp at d'
  | .cell (some _), ⟨v, ⟨o, e', d'⟩, _⟩ => have q := e.symm.trans e'; simp at q; rw [← q, d] at d'; simp at d'
theorem Rep.other {ob : Obj} {fs : Array Value} (R : Rep B K L st s) (hob : s.heap.get? a = some ob) (hf : ob.data = .fields fs) (hK : ∀ o, ¬ K a o)
    (e : ∀ b o, b ≠ a → s.heap.get? b = some o → h'.get? b = some o) : Rep B K L st { s with heap := h', toks := tk } ∧ Grow s.heap h' := by
  have g : Grow s.heap h' := fun b vs n q => e b _ (fun z => by subst z; have := hob.symm.trans q; simp at this; rw [this] at hf; simp at hf) q
  refine ⟨⟨R.sh', ?_, fun b o' q => (R.ob b o' q).at g fun ob' z => e b ob' (fun zz => by subst zz; exact (R.ob b o' q).ne_fields hob hf) z, fun b o' q => e b o' (fun zz => by subst zz; exact hK o' q) (R.keep b o' q), R.kL, R.kσ, R.base⟩, g⟩
  obtain ⟨m', h1, h2⟩ := R.ns
  refine ⟨m', h1.at' fun ob' q => e L ob' (fun zz => ?_) q, fun x v q => let ⟨v', q1, q2⟩ := h2 x v q; ⟨v', q1, q2.grow g⟩⟩
  obtain ⟨o', es, ep, e', d', _⟩ := h1
  rw [zz] at e'
  have := hob.symm.trans e'
  simp at this
  rw [this, d'] at hf
  simp at hf
theorem Rep.lessK (R : Rep B K' L st s) (hK : ∀ b o, K b o → K' b o) (hb : ∀ b o, B.hb.get? b = some o → K b o) : Rep B K L st s :=
  ⟨R.sh, R.ns, R.ob, fun b o q => R.keep b o (hK b o q), fun o q => R.kL o (hK _ _ q), fun b o q => R.kσ b o (hK b o q), hb⟩
theorem Rep.moreK {ob : Obj} {fs : Array Value} (R : Rep B K L st s) (hob : s.heap.get? a = some ob) (hf : ob.data = .fields fs) : Rep B (fun b o => K b o ∨ (b = a ∧ o = ob)) L st s where
  sh := R.sh
  ns := R.ns
  ob := R.ob
  keep := fun b o q => by
    rcases q with q | ⟨rfl, rfl⟩
    · exact R.keep b o q
    · exact hob
  kL := fun o q => by
    rcases q with q | ⟨e, rfl⟩
    · exact R.kL o q
    · obtain ⟨m', ⟨o', es, ep, e', d', _⟩, _⟩ := R.ns
      rw [e] at e'
      have := hob.symm.trans e'
      simp at this
      rw [this, d'] at hf
      simp at hf
  kσ := fun b o q => by
    rcases q with q | ⟨e, rfl⟩
    · exact R.kσ b o q
    · subst e
      cases e2 : st.σ b with
      | none => rfl
      | some o' => exact ((R.ob b o' e2).ne_fields hob hf).elim
  base := fun b o q => .inl (R.base b o q)
end

section
variable {B : Bs} {A : Around} {env : Env} {st : St} {L : Addr}

abbrev WA (B : Bs) (A : Around) (env : Env) (pos : Pos) (es : List Expr) (st : St) (Q : List V → St → Prop) : Prop := W B A env.locals VReps (spliced (backTo pos (starEach es env))) st Q
theorem A_nil {pos : Pos} {Q : List V → St → Prop} (h : Q [] st) : WA B A env pos [] st Q := fun K s R => args_nil ⟨[], st, .nil, R, Grow.refl _, h⟩
theorem A_cons {pos : Pos} {e : Expr} {rest : List Expr} {Q : List V → St → Prop} (h : WE B A env e st fun v st₁ => WA B A env pos rest st₁ fun vs st₂ => Q (v :: vs) st₂)
    (he : starEach (e :: rest) env = (false, eval e env) :: starEach rest env := by rfl) : WA B A env pos (e :: rest) st Q := fun K s R =>
  args_cons (wbind (h K s R) fun v s₁ ⟨a, st₁, ra, R₁, g₁, h₁⟩ => wbind (h₁ K s₁ R₁) fun vs s₂ ⟨as, st₂, rb, R₂, g₂, h₂⟩ => ⟨a :: as, st₂, .cons (ra.grow g₂) rb, R₂, g₁.trans g₂, h₂⟩) he

theorem E_tuple {elts : List Expr} {k : Nat} {pos : Pos} {Q : V → St → Prop} (h : WA B A env pos elts st fun vs st₁ => ∃ is, vs = is.map V.int ∧ is.length ≤ 1000 ∧ Q (.tup is) st₁) : WE B A env (.Tuple elts k pos) st Q := fun K s R =>
  Tuple_ (wbind (h K s R) fun vs s₁ ⟨as, st₁, ra, R₁, g₁, is, e, hz, h₁⟩ => by
    subst e
    have hi := ra.ints
    have hlen : vs.length = is.length := hi.length
    refine wpAny_newTuple ?_ (line_ok (by omega))
    have hE : Ext s₁.heap (s₁.heap.push { cls := .type "tuple", data := .seq vs.toArray }) := Ext.push _ _
    exact ⟨V.tup is, st₁, ⟨_, vs, 0, rfl, IsT.new _ _, hi⟩, R₁.ext (tk := s₁.toks) hE, g₁.trans hE.grow, h₁⟩)
theorem E_list {elts : List Expr} {pos : Pos} {Q : V → St → Prop} (h : WA B A env pos elts st fun vs st₁ => vs.length ≤ 1000 ∧ ∀ a, st₁.σ a = none → Q (.ref a) ⟨st₁.m, upd st₁.σ a (.list vs)⟩) : WE B A env (.List elts pos) st Q := fun K s R =>
  List_ (wbind (h K s R) fun vs s₁ ⟨as, st₁, ra, R₁, g₁, hz, h₁⟩ => by
    have hlen := ra.length
    refine wpAny_newList ?_ (line_ok (by omega))
    have hE : Ext s₁.heap (s₁.heap.push { cls := .type "list", data := .seq vs.toArray }) := Ext.push _ _
    exact ⟨V.ref _, _, rfl, R₁.alloc (tk := s₁.toks) (o := .list as) hE (size_none _) ⟨vs, 0, IsL.new _ _, ra.grow hE.grow, by omega⟩, g₁.trans hE.grow, h₁ _ (R₁.fresh (size_none _))⟩)

theorem A_name {x : Str} {pos : Pos} {v : V} {Q : Unit → St → Prop} (h : W1 B A env.locals URep (storeName env x) v st Q) : W1 B A env.locals URep (assign (.Name x pos) env) v st Q := fun v' K s R rv => wpAny_assign_Name (h v' K s R rv)

/-- a tuple of names as a target -/
noncomputable def bindAll (xs : List Str) (is : List Int) (m : List (Str × V)) : List (Str × V) := match xs, is with
  | x :: xs, i :: is => bindAll xs is ((x, V.int i) :: m)
  | _, _ => m
def nameOf : Expr → Str
  | .Name x _ => x
  | _ => default
theorem A_order {K : Addr → Obj → Prop} {Q : Unit → St → Prop} (hp : (env.scope.kind == .class || (env.scope.kind == .module && env.locals != env.globals)) = false) (xs : List (Str × Pos)) :
    ∀ (is : List Int) (vs : List Value) (st : St) (s : Shared), Rep B K env.locals st s → IntsAre vs is → xs.length = is.length → (∀ x ∈ xs, env.kindOf x.1 = some .local) → Q () ⟨bindAll (xs.map (·.1)) is st.m, st.σ⟩ →
      wpAny (model B.prog B.w) A (assignInOrder (xs.map fun x => assign (.Name x.1 x.2) env) vs) (Post B K env.locals URep Q s.heap) (fun _ _ => False) s := by
  induction xs with
  | nil =>
    intro is vs st s R hi hl hk h
    cases hi with
    | nil => exact wpAny_assignInOrder_none ⟨(), _, trivial, R, Grow.refl _, h⟩
    | cons => simp at hl
  | cons x xs ih =>
    intro is vs st s R hi hl hk h
    cases hi with
    | nil => simp at hl
    | cons i t hi =>
      rw [List.map_cons]
      refine wpAny_assignInOrder_more ?_
      refine wbind (A_name (W1_store (st := st) (Q := fun _ st' => st' = ⟨(x.1, V.int i) :: st.m, st.σ⟩) rfl (hk x (.head _)) hp) _ K s R ⟨t, rfl⟩) ?_
      rintro _ s₁ ⟨_, st₁, _, R₁, g₁, rfl⟩
      exact wbind (ih _ _ _ s₁ R₁ hi (by simpa using hl) (fun y hy => hk y (.tail _ hy)) h) fun _ _ p => p.mono g₁
theorem A_tup {elts : List Expr} {k : Nat} {pos : Pos} {is : List Int} {Q : Unit → St → Prop} (xs : List (Str × Pos)) (hx : elts = xs.map fun x => Expr.Name x.1 x.2) (hl : xs.length = is.length) (hh : A.handled = none)
    (h : Q () ⟨bindAll (xs.map (·.1)) is st.m, st.σ⟩) (hk : (xs.all fun x => env.kindOf x.1 == some .local) = true := by rfl)
    (hp : (env.scope.kind == .class || (env.scope.kind == .module && env.locals != env.globals)) = false := by rfl)
    (ha : assignEach elts env = xs.map (fun x => (false, assign (.Name x.1 x.2) env)) := by rfl) : W1 B A env.locals URep (assign (.Tuple elts k pos) env) (.tup is) st Q := fun v K s R ⟨a, vs, n, e1, e2, e3⟩ => by
  subst e1
  have hlen : vs.length = is.length := e3.length
  refine wpAny_assign_Tuple hh (IsT.isTup e2) (by rw [ha]; simp; omega) (by rw [ha]; simp) fun h' hE => ?_
  have hE' : Ext s.heap h' := Ext.fresh hE (size_none _)
  have e4 : (assignEach elts env).map (·.2) = xs.map fun x => assign (.Name x.1 x.2) env := by rw [ha]; simp [Function.comp_def]
  rw [e4]
  refine wbind (A_order hp xs is vs st _ (R.ext (tk := s.toks) hE') e3 hl (fun x hx => ?_) h) fun _ _ p => p.mono hE'.grow
  have := List.all_eq_true.mp hk x hx
  simpa using this
theorem S_unpack {elts : List Expr} {k : Nat} {tpos : Pos} {value : Expr} {pos : Pos} {Q : AFlow → St → Prop} (h : WE B A env value st fun v st₁ => W1 B A env.locals URep (assign (.Tuple elts k tpos) env) v st₁ fun _ st₂ => Q .next st₂)
    (hs : swapsWithSole [.Tuple elts k tpos] value pos.line env = pure false := by rfl) (hw : swappedStores [.Tuple elts k tpos] value env = pure none := by rfl) :
    WS B A env (.Assign [.Tuple elts k tpos] value pos) st Q := fun K s R =>
  Assign_Tuple (wbind (h K s R) fun v s₁ ⟨a, st₁, ra, R₁, g₁, h₁⟩ => wbind (h₁ v K s₁ R₁ ra) fun _ s₂ ⟨_, st₂, _, R₂, g₂, h₂⟩ => ⟨.next, st₂, trivial, R₂, g₁.trans g₂, h₂⟩) hs hw
theorem A_item {o i : Expr} {pos : Pos} {v : V} {Q : Unit → St → Prop} (h : WE B A env o st fun ov st₁ => WE B A env i st₁ fun iv st₂ => W3 B A env.locals URep setItem ov iv v st₂ Q) :
    W1 B A env.locals URep (assign (.Subscript o i pos) env) v st Q := fun v' K s R rv => by
  rw [assign_Subscript]
  refine wpAny_bind (wpAny_holding (wbind (h K s R) ?_))
  rintro w s₁ ⟨b, st₁, rb, R₁, g₁, h₁⟩
  refine wpAny_bind (wpAny_holding (wbind (h₁ K s₁ R₁) ?_))
  rintro u s₂ ⟨c, st₂, rc, R₂, g₂, h₂⟩
  refine wpAny_bind (wpAny_standAt (wpAny_bind (wpAny_holding (wbind (h₂ w u v' K s₂ R₂ (rb.grow g₂) rc (rv.grow (g₁.trans g₂))) ?_))))
  rintro _ s₃ ⟨_, st₃, _, R₃, g₃, h₃⟩
  exact wpAny_release ⟨(), st₃, trivial, R₃, (g₁.trans g₂).trans g₃, h₃⟩
theorem S_pair {t₁ t₂ e₁ e₂ : Expr} {k k' : Nat} {tpos vpos pos : Pos} {Q : AFlow → St → Prop} (hh : A.handled = none)
    (h : WA B A env vpos [e₁, e₂] st fun vs st₁ => ∃ a b, vs = [a, b] ∧ W1 B A env.locals URep (assign t₁ env) a st₁ fun _ st₂ => W1 B A env.locals URep (assign t₂ env) b st₂ fun _ st₃ => Q .next st₃)
    (hs : swapsWithSole [.Tuple [t₁, t₂] k tpos] (.Tuple [e₁, e₂] k' vpos) pos.line env = pure false := by rfl) (hw : swappedStores [.Tuple [t₁, t₂] k tpos] (.Tuple [e₁, e₂] k' vpos) env = pure none := by rfl)
    (ha : assignEach [t₁, t₂] env = [(false, assign t₁ env), (false, assign t₂ env)] := by rfl) :
    WS B A env (.Assign [.Tuple [t₁, t₂] k tpos] (.Tuple [e₁, e₂] k' vpos) pos) st Q := fun K s R => by
  refine Assign_Tuple (Tuple_ (wbind (h K s R) ?_)) hs hw
  rintro vs s₁ ⟨_, st₁, ra, R₁, g₁, a, b, rfl, h₁⟩
  obtain ⟨v, w, rfl, ra, rb⟩ : ∃ v w, vs = [v, w] ∧ VRep s₁.heap v a ∧ VRep s₁.heap w b := by
    cases ra with
    | cons x y => cases y with
      | cons x' y' => cases y'; exact ⟨_, _, rfl, x, x'⟩
  refine wpAny_newTuple ?_ (line_ok (by simp))
  have hE : Ext s₁.heap (s₁.heap.push { cls := .type "tuple", data := .seq [v, w].toArray }) := Ext.push _ _
  refine wpAny_assign_Tuple hh (IsT.isTup (IsT.new _ _)) (by rw [ha]; rfl) (by rw [ha]; rfl) fun h' hE₂ => ?_
  have hE' : Ext s₁.heap h' := hE.trans (Ext.fresh hE₂ (size_none _))
  rw [ha]
  refine wpAny_assignInOrder_more (wbind (h₁ v K _ (R₁.ext (tk := s₁.toks) hE') (ra.grow hE'.grow)) ?_)
  rintro _ s₂ ⟨_, st₂, _, R₂, g₂, h₂⟩
  refine wpAny_assignInOrder_more (wbind (h₂ w K s₂ R₂ (rb.grow (hE'.grow.trans g₂))) ?_)
  rintro _ s₃ ⟨_, st₃, _, R₃, g₃, h₃⟩
  exact wpAny_assignInOrder_none ⟨.next, st₃, trivial, R₃, ((g₁.trans hE'.grow).trans g₂).trans g₃, h₃⟩

def LoopQ {ι : Type} (I : ι → St → Prop) (μ : ι → Nat) (i : ι) (Q : AFlow → St → Prop) : AFlow → St → Prop
  | .next, st => ∃ j st', μ j < μ i ∧ Le st' st ∧ I j st'
  | .cont, st => ∃ j st', μ j < μ i ∧ Le st' st ∧ I j st'
  | .brk, st => Q .next st
  | .ret v, st => Q (.ret v) st
theorem S_while {test : Expr} {body : List Stmt} {pos : Pos} {Q : AFlow → St → Prop} {ι : Type} (I : ι → St → Prop) (μ : ι → Nat) (i₀ : ι) (st₀ : St) (hle : Le st₀ st) (h0 : I i₀ st₀)
    (step : ∀ i st₁, I i st₁ → WT B A env test st₁ fun b st₂ => if b then WB B A env body st₂ (LoopQ I μ i Q) else Q .next st₂) : WS B A env (.While test body [] pos) st Q := fun K s R => by
  refine wpAny_While (codeAny_whileLoop (fun n s' => ∃ i st₁, n = μ i ∧ I i st₁ ∧ Rep B K env.locals st₁ s' ∧ Grow s.heap s'.heap) ?_ (μ i₀) ⟨i₀, st₀, rfl, h0, R.weaken hle, Grow.refl _⟩)
  rintro n s' ⟨i, st₁, rfl, hI, R₁, g₁⟩
  refine wpAny_noRaise (wbind (step i st₁ hI K s' R₁) ?_)
  rintro b s₂ ⟨c, st₂, e, R₂, g₂, h₂⟩
  obtain rfl : b = c := e
  cases b with
  | true =>
    simp only [if_true] at h₂ ⊢
    refine wpAny_noRaise (wbind (h₂ K s₂ R₂) ?_)
    rintro f s₃ ⟨f', st₃, e, R₃, g₃, h₃⟩
    have g := (g₁.trans g₂).trans g₃
    cases f <;> cases f' <;> first | exact e.elim | skip
    · obtain ⟨j, st', hj, hle', hI'⟩ := h₃
      exact ⟨μ j, hj, j, st', rfl, hI', R₃.weaken hle', g⟩
    · exact ⟨.next, st₃, trivial, R₃, g, h₃⟩
    · obtain ⟨j, st', hj, hle', hI'⟩ := h₃
      exact ⟨μ j, hj, j, st', rfl, hI', R₃.weaken hle', g⟩
    · exact ⟨.ret _, st₃, e, R₃, g, h₃⟩
  | false =>
    simp only [Bool.false_eq_true, if_false] at h₂ ⊢
    exact wpAny_execs_nil ⟨.next, st₂, trivial, R₂, g₁.trans g₂, h₂⟩

def ForQ (I : Nat → St → Prop) (i : Nat) (Q : AFlow → St → Prop) : AFlow → St → Prop
  | .next, st => ∃ st', Le st' st ∧ I (i + 1) st'
  | .cont, st => ∃ st', Le st' st ∧ I (i + 1) st'
  | .brk, st => Q .next st
  | .ret v, st => Q (.ret v) st
theorem S_forCore {target iter : Expr} {body : List Stmt} {pos : Pos} {Q : AFlow → St → Prop} {P : V → Prop} (hgo : ∀ x v (s : Shared) (I l : Addr) (j : Nat) (Q : Unit → Shared → Prop) (E : Value → Shared → Prop), P x → VRep s.heap v x → s.heap.IsListIter I l j → Q () s → wpAny (model B.prog B.w) A (letOwnedTupleGo target (.ref I) v) Q E s) (hh : A.handled = none)
    (h : WE B A env iter st fun v st₁ => ∃ l xs, v = .ref l ∧ (∀ x ∈ xs, P x) ∧ ∃ (I : Nat → St → Prop) (st₀ : St), Le st₀ st₁ ∧ I 0 st₀ ∧ (∀ i st₂, I i st₂ → st₂.σ l = some (.list xs)) ∧
      (∀ i x st₂, xs[i]? = some x → I i st₂ → W1 B A env.locals URep (assign target env) x st₂ fun _ st₃ => WB B A env body st₃ (ForQ I i Q)) ∧
      (∀ st₂, I xs.length st₂ → Q .next st₂))
    (hs : ∀ x, foldedSetIterable iter env x = pure x) :
    WS B A env (.For target iter body [] pos) st Q := fun K s R => by
  refine wpAny_For (wbind (h K s R) ?_) hs
  rintro v s₁ ⟨_, st₁, ra, R₁, g₁, l, xs, rfl, hP, I, st₀, hle, h0, hl, step, fin⟩
  obtain rfl : v = .ref l := ra
  have R₀ := R₁.weaken hle
  obtain ⟨vs, n, hL, hv, hz⟩ := R₀.ob l _ (hl 0 st₀ h0)
  refine wpAny_pyIter_list hL.isList ?_
  have hE : Ext s₁.heap (s₁.heap.push { cls := .type "list_iterator", data := .fields #[.ref l, .int 0 0] }) := Ext.push _ _
  have hfr : ∀ o, ¬ K s₁.heap.objs.size o := fun o q => by have := R₁.keep _ o q; rw [size_none] at this; cases this
  refine codeAny_forLoop_any (fun k s' => ∃ i st₂, k = xs.length - i ∧ i ≤ xs.length ∧ I i st₂ ∧ Rep B K env.locals st₂ s' ∧ Grow s.heap s'.heap ∧ s'.heap.IsListIter s₁.heap.objs.size l i) ?_ xs.length
    ⟨0, st₀, rfl, Nat.zero_le _, h0, R₀.ext (tk := s₁.toks) hE, g₁.trans hE.grow, ⟨_, Heap.get?_push_size _ rfl, rfl, rfl⟩⟩
  rintro k s₂ ⟨i, st₂, rfl, hi, hI, R₂, g₂, hit⟩
  obtain ⟨us, n', hL', hv', hz'⟩ := R₂.ob l _ (hl i st₂ hI)
  have hlen : us.length = xs.length := hv'.length
  obtain ⟨ob, hob, hcls, hdat⟩ := id hit
  by_cases hlt : i < xs.length
  · obtain ⟨y, hy, ry⟩ := hv'.get (i := i) (y := xs[i]) (by simp [hlt])
    refine wpAny_pyNext_list_item hit hL'.isList (x := y) (by simpa using hy) fun h₃ hit₃ hs₃ => ?_
    obtain ⟨R₃, g₃⟩ := R₂.other (tk := s₂.toks) (h' := h₃) hob hdat hfr fun b o hb q => hs₃.extBut b o hb q
    obtain ⟨ob₃, hob₃, hcls₃, hdat₃⟩ := id hit₃
    dsimp only
    have R₃' := R₃.moreK hob₃ hdat₃
    have ry3 := ry.grow g₃
    refine hgo xs[i] y _ _ _ _ _ _ (hP _ (List.getElem_mem hlt)) ry3 hit₃ ?_
    refine wpAny_noRaise (wbind (step i xs[i] st₂ (by simp [hlt]) hI y _ _ R₃' ry3) ?_)
    rintro _ s₄ ⟨_, st₄, _, R₄, g₄, h₄⟩
    refine wpAny_noRaise (wbind (h₄ _ s₄ R₄) ?_)
    rintro f s₅ ⟨f', st₅, e, R₅, g₅, h₅⟩
    have g := (((g₂.trans g₃).trans g₄).trans g₅)
    have R₆ : Rep B K env.locals st₅ s₅ := R₅.lessK (fun b o q => .inl q) R₁.base
    have hit₅ : s₅.heap.IsListIter s₁.heap.objs.size l (i + 1) := ⟨ob₃, R₅.keep _ _ (.inr ⟨rfl, rfl⟩), hcls₃, hdat₃⟩
    cases f <;> cases f' <;> first | exact e.elim | skip
    · obtain ⟨st', hle', hI'⟩ := h₅
      exact ⟨_, by omega, i + 1, st', rfl, hlt, hI', R₆.weaken hle', g, hit₅⟩
    · exact ⟨.next, st₅, trivial, R₆, g, h₅⟩
    · obtain ⟨st', hle', hI'⟩ := h₅
      exact ⟨_, by omega, i + 1, st', rfl, hlt, hI', R₆.weaken hle', g, hit₅⟩
    · exact ⟨.ret _, st₅, e, R₆, g, h₅⟩
  · have hieq : i = xs.length := by omega
    subst hieq
    refine wpAny_pyNext_list_end hh hit hL'.isList (by simp; omega) fun h₃ he₃ => ?_
    obtain ⟨R₃, g₃⟩ := R₂.other (tk := s₂.toks) (h' := h₃) hob hdat hfr fun b o hb q => he₃ b o hb q
    dsimp only
    exact wpAny_execs_nil ⟨.next, st₂, trivial, R₃, g₂.trans g₃, fin st₂ hI⟩
theorem S_forList {target iter : Expr} {body : List Stmt} {pos : Pos} {Q : AFlow → St → Prop} (hh : A.handled = none)
    (h : WE B A env iter st fun v st₁ => ∃ l xs, v = .ref l ∧ ∃ (I : Nat → St → Prop) (st₀ : St), Le st₀ st₁ ∧ I 0 st₀ ∧ (∀ i st₂, I i st₂ → st₂.σ l = some (.list xs)) ∧
      (∀ i x st₂, xs[i]? = some x → I i st₂ → W1 B A env.locals URep (assign target env) x st₂ fun _ st₃ => WB B A env body st₃ (ForQ I i Q)) ∧
      (∀ st₂, I xs.length st₂ → Q .next st₂))
    (hs : ∀ x, foldedSetIterable iter env x = pure x := by intro _; rfl) (ht : ∀ it v, letOwnedTupleGo target it v = pure () := by intro _ _; rfl) :
    WS B A env (.For target iter body [] pos) st Q :=
  S_forCore (P := fun _ => True) (fun x v s I l j Q E _ _ _ q => wpAny_of_eq (ht _ _) q) hh (W.mono h fun v st₁ q => by
    obtain ⟨l, xs, e, r⟩ := q
    exact ⟨l, xs, e, fun _ _ => trivial, r⟩) hs
theorem S_forTups {elts : List Expr} {x1 : Nat} {tpos : Pos} {iter : Expr} {body : List Stmt} {pos : Pos} {Q : AFlow → St → Prop} (hh : A.handled = none)
    (h : WE B A env iter st fun v st₁ => ∃ (l : Addr) (tss : List (List Int)), v = .ref l ∧ ∃ (I : Nat → St → Prop) (st₀ : St), Le st₀ st₁ ∧ I 0 st₀ ∧ (∀ i st₂, I i st₂ → st₂.σ l = some (.list (tss.map V.tup))) ∧
      (∀ i x st₂, tss[i]? = some x → I i st₂ → W1 B A env.locals URep (assign (.Tuple elts x1 tpos) env) (.tup x) st₂ fun _ st₃ => WB B A env body st₃ (ForQ I i Q)) ∧
      (∀ st₂, I tss.length st₂ → Q .next st₂))
    (hs : ∀ x, foldedSetIterable iter env x = pure x := by intro _; rfl) :
    WS B A env (.For (.Tuple elts x1 tpos) iter body [] pos) st Q :=
  S_forCore (P := fun x => ∃ t, x = V.tup t) (fun x v s I l j Q E hP r hit q => by
    obtain ⟨t, rfl⟩ := hP
    obtain ⟨T', _, _, eT, _⟩ := r
    subst eT
    exact wpAny_letOwnedTupleGo_listiter hit q) hh (W.mono h fun v st₁ q => by
    obtain ⟨l, tss, e, I, st₀, q1, q2, q3, q4, q5⟩ := q
    refine ⟨l, tss.map V.tup, e, fun x hx => ?_, I, st₀, q1, q2, q3, fun i x st₂ hx hI => ?_, fun st₂ hI => q5 st₂ (by rwa [List.length_map] at hI)⟩
    · obtain ⟨t, _, rfl⟩ := List.mem_map.mp hx
      exact ⟨t, rfl⟩
    · rw [List.getElem?_map] at hx
      cases e1 : tss[i]? with
      | none => rw [e1] at hx; cases hx
      | some y => rw [e1] at hx; cases hx; exact q4 i y st₂ e1 hI) hs
end
end Mine
end

/-! ## M4 -/
section
set_option maxRecDepth 100000
namespace Mine
open PySem PySem.W PySem.Calls PyProof.Rows

section
variable {B : Bs} {A : Around} {env : Env} {st : St} {L : Addr}

theorem S_expr {e : Expr} {pos : Pos} {Q : AFlow → St → Prop} (h : WE B A env e st fun v st₁ => v = .none ∧ Q .next st₁)
    (hi : interactive env = false := by rfl) (hs : swapsWith e none pos.line env = pure false := by rfl) : WS B A env (.Expr e pos) st Q := fun K s R =>
  wpAny_Expr (wbind (h K s R) fun v s₁ ⟨a, st₁, ra, R₁, g₁, e, h₁⟩ => by
    subst e
    obtain rfl : v = .none := ra
    exact ⟨.next, st₁, trivial, R₁, g₁, h₁⟩) hi hs

/-- a def of the text: what its call does to the store -/
abbrev Con := List V → Store → (V → Store → Prop) → Prop
def FnOK (B : Bs) (k : Nat) (a : Addr) (P : Con) : Prop :=
  ∀ A, Ok k A → ∀ L st Vs Q, P Vs st.σ (fun v σ' => Q v ⟨st.m, σ'⟩) → WL B A L VRep (fun vs => call (.ref a) vs) Vs st Q
structure DefAt (B : Bs) (name : Str) (params : Arguments) (body : List Stmt) (scope : Scope) (a : Addr) : Prop where
  mg : B.mg name = some (.ref a)
  at' : ∃ o pm cd doc, B.hb.get? a = some o ∧ o.data = .func (Calls.docDef name params body scope pm cd doc) ∧ B.hb.CodeRec cd name
def Fn (B : Bs) (k : Nat) (name : Str) (P : Con) : Prop := ∃ a, B.mg name = some (.ref a) ∧ (∃ o fd, B.hb.get? a = some o ∧ o.data = .func fd) ∧ FnOK B k a P

theorem E_call {k : Nat} {P : Con} {f : Str} {np : Pos} {e : Expr} {rest : List Expr} {pos : Pos} {Q : V → St → Prop} (BO : BOk B) (hA : Ok k A) (hf : Fn B k f P)
    (h : WA B A env pos (e :: rest) st fun vs st₁ => P vs st₁.σ fun v σ' => Q v ⟨st₁.m, σ'⟩)
    (hg : env.globals = mainGlobals := by rfl) (hk : env.scope.kind = .function := by rfl) (hx : env.kindOf f = some .globalImplicit := by rfl)
    (hd : (f == ("__debug__" : Str)) = false := by decide) (he : starEach (e :: rest) env = (false, eval e env) :: starEach rest env := by rfl) :
    WE B A env (.Call (.Name f np) (e :: rest) [] pos) st Q := fun K s R => by
  obtain ⟨a, h1, ⟨o, fd, h2, h3⟩, h4⟩ := hf
  refine Call_ (Name_function_global hk hx (loadGlobal_global (env := env) (hg ▸ BO.g.keeps R.baseAt) h1 ?_) hd)
  refine callWith_def (o := o) (fd := fd) h3 (wbind (h K s R) ?_) he
  rintro vs s₁ ⟨as, st₁, ra, R₁, g₁, h₁⟩
  exact ⟨R₁.baseAt _ _ h2, wbind (h4 A hA env.locals st₁ as Q h₁ vs K s₁ R₁ ra) fun x s₂ p => p.mono g₁⟩
/-- a built-in function by its name -/
theorem E_built {f : Str} {id : String} {np : Pos} {e : Expr} {rest : List Expr} {pos : Pos} {Q : V → St → Prop} (BO : BOk B) (hm : B.mg f = none) (hb : bootBuiltins f = some (.builtin id))
    (h : WA B A env pos (e :: rest) st fun vs st₁ => WL B A env.locals VRep (fun vs => call (.builtin id) vs) vs st₁ Q)
    (hg : env.globals = mainGlobals := by rfl) (hbn : env.builtins = builtinsNs := by rfl) (hk : env.scope.kind = .function := by rfl) (hx : env.kindOf f = some .globalImplicit := by rfl)
    (hd : (f == ("__debug__" : Str)) = false := by decide) (hn : f ≠ "__name__" := by decide) (he : starEach (e :: rest) env = (false, eval e env) :: starEach rest env := by rfl)
    (hplain : (backTo pos (starEach rest env)).any (·.1) = false := by rfl) :
    WE B A env (.Call (.Name f np) (e :: rest) [] pos) st Q := fun K s R => by
  refine Call_ (Name_function_global hk hx (loadGlobal_builtin (env := env) (hg ▸ BO.g.keeps R.baseAt) hm (hbn ▸ BO.b.keeps R.baseAt) ((BO.builtins f hn).trans hb) ?_) hd)
  refine callWith_builtin1 (wbind (h K s R) ?_) he hplain
  rintro vs s₁ ⟨as, st₁, ra, R₁, g₁, h₁⟩
  exact wbind (h₁ vs K s₁ R₁ ra) fun x s₂ p => p.mono g₁

def retV : AFlow → V
  | .ret v => v
  | _ => .none
theorem zip_rep {h : Heap} {vs : List Value} {Vs : List V} (r : VReps h vs Vs) : ∀ (ns : List Str) (x : Str) (v : V) (acc : List (Str × Value)) (Acc : List (Str × V)), (∀ y u, Acc.lookup y = some u → ∃ u', acc.lookup y = some u' ∧ VRep h u' u) →
    ((ns.zip Vs).reverse ++ Acc).lookup x = some v → ∃ v', ((ns.zip vs).reverse ++ acc).lookup x = some v' ∧ VRep h v' v := by
  induction r with
  | nil => intro ns x v acc Acc ha e; simp at e ⊢; exact ha x v e
  | cons a r ih =>
    intro ns x v acc Acc ha e
    cases ns with
    | nil => simp at e ⊢; exact ha x v e
    | cons n ns =>
      simp only [List.zip_cons_cons, List.reverse_cons, List.append_assoc, List.singleton_append] at e ⊢
      refine ih ns x v _ _ (fun y u q => ?_) e
      rw [List.lookup_cons] at q ⊢
      by_cases hy : y == n
      · rw [hy] at q ⊢; cases q; exact ⟨_, rfl, a⟩
      · simp only [Bool.not_eq_true] at hy
        rw [hy] at q ⊢
        exact ha y u q

def fnEnv (name : Str) (scope : Scope) (cd : Value) (L a : Addr) : Env := envOf name scope L a cd

theorem fn_intro {k : Nat} {name : Str} {params : Arguments} {body : List Stmt} {scope : Scope} {a : Addr} {P : Con} (BO : BOk B) (D : DefAt B name params body scope a)
    (h : ∀ A cd L Vs σ Q, Ok k A → P Vs σ Q → Vs.length = params.args.length ∧ WB B A (envOf name scope L a cd) body ⟨((params.args.map (·.arg)).zip Vs).reverse, σ⟩ fun f st => Q (retV f) st.σ)
    (hbind : ∀ pm cd doc (vs : List Value), vs.length = params.args.length → bindArgs (Calls.docDef name params body scope pm cd doc) ⟨vs, []⟩ = pure ((params.args.map (·.arg)).zip vs))
    (hloc : ∀ vs : List Value, vs.length = params.args.length → ∀ x ∈ (params.args.map (·.arg)).zip vs, scope.names.lookup x.1 = some .local)
    (hco : scope.isCoroutine = false := by rfl) (hgen : scope.isGenerator = false := by rfl) (hk : scope.kind = .function := by rfl)
    (hcell : ∀ x ∈ scope.names, x.2 ≠ .cell := by decide) : FnOK B (k + 1) a P := fun A hA L st Vs Q hP vs K s R rv => by
  obtain ⟨o, pm, cd, doc, h1, h2, h3⟩ := D.at'
  have hroom : A.depth < recursionLimit := by have := hA.dp; show A.depth < 1000; omega
  obtain ⟨hl, h⟩ := h (A.deeper (envOf name scope s.heap.objs.size a cd)) cd s.heap.objs.size Vs st.σ _ (hA.deeper _) hP
  have hlv : vs.length = params.args.length := rv.length.trans hl
  refine wpAny_call (call_pos_ret hroom (R.baseAt _ _ h1) h2 (BO.nolimit.keeps R.baseAt) (h3.keeps R.baseAt) (hbind pm cd doc vs hlv) (hloc vs hlv) (fun h₁ F => ?_) hco hgen hk hcell)
  have hE : Ext s.heap h₁ := F.keep
  have R₁ : Rep B (fun b o => s.heap.get? b = some o ∧ st.σ b = none) s.heap.objs.size ⟨((params.args.map (·.arg)).zip Vs).reverse, st.σ⟩ { s with heap := h₁, toks := s.toks + ((params.args.map (·.arg)).zip vs).length } :=
    { sh := R.sh'
      ns := ⟨_, F.ns, fun x v q => by
        have := zip_rep (rv.grow hE.grow) (params.args.map (·.arg)) x v [] [] (fun y u q => by simp at q) (by simpa using q)
        simpa using this⟩
      ob := fun b o' q => (R.ob b o' q).at hE.grow (hE b)
      keep := fun b o' q => hE b o' q.1
      kL := fun o' q => by have := q.1; rw [size_none] at this; cases this
      kσ := fun b o' q => q.2
      base := fun b o' q => ⟨R.baseAt b o' q, R.kσ b o' (R.base b o' q)⟩ }
  refine wbind (h _ _ R₁) ?_
  rintro f s₂ ⟨f', st₂, rf, R₂, g₂, h₂⟩
  obtain ⟨m', hn, hm⟩ := R.ns
  have hLσ : st.σ L = none := by
    cases e : st.σ L with
    | none => rfl
    | some o' => exact ((R.ob L o' e).ne_ns hn).elim
  have g : Grow s.heap s₂.heap := hE.grow.trans g₂
  refine ⟨retV f', ⟨st.m, st₂.σ⟩, ?_, ⟨?_, ⟨m', hn.at' fun o' q => R₂.keep L o' ⟨q, hLσ⟩, fun x v q => let ⟨v', q1, q2⟩ := hm x v q; ⟨v', q1, q2.grow g⟩⟩, R₂.ob, fun b o' q => R₂.keep b o' ⟨R.keep b o' q, R.kσ b o' q⟩, R.kL,
    fun b o' q => R₂.kσ b o' ⟨R.keep b o' q, R.kσ b o' q⟩, R.base⟩, g, h₂⟩
  · cases f <;> cases f' <;> first | exact rf.elim | exact rf | rfl
  · exact R₂.sh
end
end Mine
end

/-! ## M6 -/
section
set_option maxRecDepth 100000
namespace Mine
open PySem PySem.W PySem.Calls PyProof.Rows

noncomputable def lexlt : List Int → List Int → Bool
  | i :: is, j :: js => if i = j then lexlt is js else decide (i < j)
  | [], _ :: _ => true
  | _, _ => false

section
variable {prog : Program} {w : World} {A : Around} {E : Value → Shared → Prop} {s : Shared} {l b : Addr} {us vs : List Value} {is js : List Int} {n n2 : Nat}
theorem tuple_lt_in {Q : Value → Shared → Prop} (hi : IntsAre us is) (hj : IntsAre vs js) (hsz : is.length = js.length) (hl : IsT s.heap l us.toArray n) (hb : IsT s.heap b vs.toArray n2) (h : Q (.bool (lexlt is js)) s) :
    wpAny (model prog w) A (Builtin.«tuple.__lt__» ⟨[.ref l, .ref b], []⟩) (fun fin s' => ∃ v, fin = .done (.ret v) ∧ v ≠ .notImplemented ∧ Q v s') E s := by
  obtain ⟨hp, g, d, tk, os⟩ := s
  have f2 := AutoSeq1.sub_tuple_tuple
  have hlu : us.length = is.length := hi.length
  have hlv : vs.length = js.length := hj.length
  wp_walk using wpAny_loadPart' hl, wpAny_loadPart' hb, wpAny_forIn_list _ (fun rest b s' => b.1 = none ∧ s' = ⟨hp, g, d, tk, os⟩ ∧ ∃ us' vs' is' js', rest = List.zip us' vs' ∧ IntsAre us' is' ∧ IntsAre vs' js' ∧ is'.length = js'.length ∧ lexlt is' js' = lexlt is js) _
  case turn =>
    rintro ⟨y, x⟩ rest b s' ⟨hb', rfl, us', vs', is', js', hz, hi', hj', hs', hlt⟩
    cases hi' with
    | nil => simp at hz
    | cons i t hi' =>
      cases hj' with
      | nil => simp at hs'
      | cons j u hj' =>
        simp only [List.zip_cons_cons, List.cons.injEq, Prod.mk.injEq] at hz
        obtain ⟨⟨rfl, rfl⟩, rfl⟩ := hz
        refine wpAny_bind (wpAny_eqBool_int ?_)
        by_cases hij : i = j
        · subst hij
          simp only [beq_self_eq_true]
          wp_walk
          exact ⟨rfl, rfl, _, _, _, _, rfl, hi', hj', by simpa using hs', by simpa [lexlt] using hlt⟩
        · have hne : (i == j) = false := by simpa using hij
          simp only [hne]
          have hlt' : decide (i < j) = lexlt is js := by simpa [lexlt, hij] using hlt
          rw [if_pos (by rfl)]
          refine wpAny_bind (wpAny_rule (wpAny_bind (show wpAny _ _ (compareOp .Lt (.int i t) (.int j u)) _ _ _ from lt_int ?_)))
          exact wpAny_bind (wpAny_pure (wpAny_pure (wpAny_pure ⟨_, rfl, (fun x => nomatch x), by rw [hlt']; exact h⟩)))
  case fin =>
    rintro ⟨b1, b2⟩ s' ⟨hb', rfl, us', vs', is', js', hz, hi', hj', hs', hlt⟩
    simp only at hb'
    subst hb'
    have e0 : lexlt is js = false := by
      rw [← hlt]
      cases hi' with
      | nil => cases hj' with
        | nil => rfl
        | cons => simp at hs'
      | cons => cases hj' with
        | nil => simp at hs'
        | cons => simp at hz
    refine wpAny_pure ⟨_, rfl, (fun x => nomatch x), ?_⟩
    simp only [Builtin.Tuple.tupleCompareSizes, List.size_toArray]
    rw [e0] at h
    rw [decide_eq_false (by omega)]
    exact h
  exact ⟨rfl, rfl, _, _, _, _, rfl, hi, hj, hsz, rfl⟩
theorem tuple_gt_in {Q : Value → Shared → Prop} (hi : IntsAre us is) (hj : IntsAre vs js) (hsz : is.length = js.length) (hl : IsT s.heap l us.toArray n) (hb : IsT s.heap b vs.toArray n2) (h : Q (.bool (lexlt js is)) s) :
    wpAny (model prog w) A (Builtin.«tuple.__gt__» ⟨[.ref l, .ref b], []⟩) (fun fin s' => ∃ v, fin = .done (.ret v) ∧ v ≠ .notImplemented ∧ Q v s') E s := by
  obtain ⟨hp, g, d, tk, os⟩ := s
  have f2 := AutoSeq1.sub_tuple_tuple
  have hlu : us.length = is.length := hi.length
  have hlv : vs.length = js.length := hj.length
  wp_walk using wpAny_loadPart' hl, wpAny_loadPart' hb, wpAny_forIn_list _ (fun rest b s' => b.1 = none ∧ s' = ⟨hp, g, d, tk, os⟩ ∧ ∃ us' vs' is' js', rest = List.zip us' vs' ∧ IntsAre us' is' ∧ IntsAre vs' js' ∧ is'.length = js'.length ∧ lexlt js' is' = lexlt js is) _
  case turn =>
    rintro ⟨y, x⟩ rest b s' ⟨hb', rfl, us', vs', is', js', hz, hi', hj', hs', hlt⟩
    cases hi' with
    | nil => simp at hz
    | cons i t hi' =>
      cases hj' with
      | nil => simp at hs'
      | cons j u hj' =>
        simp only [List.zip_cons_cons, List.cons.injEq, Prod.mk.injEq] at hz
        obtain ⟨⟨rfl, rfl⟩, rfl⟩ := hz
        refine wpAny_bind (wpAny_eqBool_int ?_)
        by_cases hij : i = j
        · subst hij
          simp only [beq_self_eq_true]
          wp_walk
          exact ⟨rfl, rfl, _, _, _, _, rfl, hi', hj', by simpa using hs', by simpa [lexlt] using hlt⟩
        · have hne : (i == j) = false := by simpa using hij
          simp only [hne]
          have hlt' : decide (j < i) = lexlt js is := by simpa [lexlt, Ne.symm hij] using hlt
          rw [if_pos (by rfl)]
          refine wpAny_bind (wpAny_rule (wpAny_bind (show wpAny _ _ (compareOp .Gt (.int i t) (.int j u)) _ _ _ from gt_int ?_)))
          exact wpAny_bind (wpAny_pure (wpAny_pure (wpAny_pure ⟨_, rfl, (fun x => nomatch x), by rw [hlt']; exact h⟩)))
  case fin =>
    rintro ⟨b1, b2⟩ s' ⟨hb', rfl, us', vs', is', js', hz, hi', hj', hs', hlt⟩
    simp only at hb'
    subst hb'
    have e0 : lexlt js is = false := by
      rw [← hlt]
      cases hi' with
      | nil => cases hj' with
        | nil => rfl
        | cons => simp at hs'
      | cons => cases hj' with
        | nil => simp at hs'
        | cons => simp at hz
    refine wpAny_pure ⟨_, rfl, (fun x => nomatch x), ?_⟩
    simp only [Builtin.Tuple.tupleCompareSizes, List.size_toArray]
    rw [e0] at h
    rw [decide_eq_false (by omega)]
    exact h
  exact ⟨rfl, rfl, _, _, _, _, rfl, hi, hj, hsz, rfl⟩
end
end Mine
end

/-! ## M7 -/
section
set_option maxRecDepth 100000
namespace Mine
open PySem PySem.W PySem.Calls PyProof.Rows

theorem upd_upd (σ : Store) (a : Addr) (x y : AO) : upd (upd σ a x) a y = upd σ a y := by
  funext b
  unfold upd
  by_cases h : b = a <;> simp [h]
theorem upd_same (σ : Store) (a : Addr) (x : AO) : upd σ a x a = some x := by simp [upd]
theorem upd_ne {σ : Store} {a b : Addr} {x : AO} (h : b ≠ a) : upd σ a x b = σ b := by simp [upd, h]

noncomputable def pick (lt : V → V → Bool) : V → List V → V
  | b, [] => b
  | b, x :: r => pick lt (if lt x b then x else b) r

section
variable {B : Bs} {A : Around} {env : Env} {st : St} {L : Addr} {K : Addr → Obj → Prop} {lt : V → V → Bool} {xs : List V} {l S I : Addr} {R : Result → Shared → Prop}

theorem min_go (hh : A.handled = none) (hcmp : ∀ x y, x ∈ xs → y ∈ xs → ∀ st, W2 B A.in1 L VRep (richCompare .Lt) x y st fun c st' => c = .bool (lt x y) ∧ st' = st) (hl : st.σ l = some (.list xs)) (hS : st.σ S = none)
    (hK : ∀ o, ¬ K I o) (hKS : ∀ o, ¬ K S o) :
    ∀ (rest : List V) (j : Nat) (s : Shared) (b : V), xs.drop j = rest → b ∈ xs → Rep B K L ⟨st.m, upd st.σ S (.list [b, b])⟩ s → s.heap.IsListIter I l j →
    (∀ v s', VRep s'.heap v (pick lt b rest) → Rep B K L st s' → Grow s.heap s'.heap → R (.ok (.ret v)) s') →
    codeAny (model B.prog B.w) A (.builtin "min.loop" ⟨[.ref I, .none, .ref S], []⟩) R s := by
  have hname : (toString "min" ++ toString ".loop" : String) = "min.loop" := by decide
  have hSl : S ≠ l := fun e => by rw [e, hl] at hS; cases hS
  have hleS : ∀ o, Le st ⟨st.m, upd st.σ S o⟩ := fun o => ⟨fun _ _ e => e, fun a o' e => by
    show (if a = S then _ else _) = _
    rw [if_neg (fun z => by rw [z, hS] at e; cases e)]; exact e⟩
  intro rest
  induction rest with
  | nil =>
    intro j s b hd hb Rr hit hR
    obtain ⟨vs, n, hL, hv, hz⟩ := Rr.ob l _ ((hleS _).σ l _ hl)
    obtain ⟨bs, n', hB, hbv, _⟩ := Rr.ob S (.list [b, b]) (by simp [upd])
    obtain ⟨vb, vb', rfl, rb, _⟩ : ∃ v w, bs = [v, w] ∧ VRep s.heap v b ∧ VRep s.heap w b := by
      cases hbv with
      | cons x y => cases y with
        | cons x' y' => cases y'; exact ⟨_, _, rfl, x, x'⟩
    obtain ⟨ob, hob, hcls, hdat⟩ := id hit
    refine codeAny_builtin F.entry_min_loop ?_
    rw [Around.under_plainId F.plain_min_loop _]
    show wpAny _ A.in1 (seqItems? (.ref S) >>= _) _ _ s
    refine wpAny_bind (wpAny_seqItems hB rfl ?_)
    show wpAny _ A.in1 (tryCatch (pyNext (.ref I)) _ >>= _) _ _ s
    have hj : vs.toArray[j]? = none := by
      have := hv.length
      have : xs.length ≤ j := by simpa using hd
      simp; omega
    refine wpAny_bind (wpAny_tryCatch (wpAny_pyNext_list_end hh hit hL.isList hj fun h' he => ?_))
    obtain ⟨R₁, g₁⟩ := Rr.other (tk := s.toks) (h' := h') hob hdat hK fun b o hb q => he b o hb q
    obtain ⟨bs', n'', hB', hbv', _⟩ := R₁.ob S (.list [b, b]) (by simp [upd])
    show wpAny _ A.in1 (updateSeq S (fun _ => #[]) >>= _) _ _ _
    have e : ∀ b o, b ≠ S → h'.get? b = some o → (h'.update S (Obj.mapSeq fun _ => #[])).get? b = some o := fun b o hb q => (Heap.get?_update_ne _ _ _ _ hb).trans q
    have hσS : (upd st.σ S (.list [b, b])) S = some (.list [b, b]) := by simp [upd]
    have R₂ := R₁.mod (tk := s.toks) (h' := h'.update S (Obj.mapSeq fun _ => #[])) (o := .list []) hσS e ⟨[], _, IsL.update hB' (fun _ => #[]), .nil, by simp⟩
    have g₂ := R₁.growMod hσS e
    refine wpAny_bind (wpAny_updateSeq hB' rfl (wpAny_bind (wpAny_letGo (wpAny_pure ?_))) (hz := line_ok (by rw [List.size_toArray, hbv'.length]; simp)))
    refine hR vb _ (rb.grow (g₁.trans g₂)) (R₂.weaken ⟨fun _ _ e => e, fun a o' e => ?_⟩) (g₁.trans g₂)
    show (if a = S then _ else _) = _
    have hne : a ≠ S := fun z => by rw [z, hS] at e; cases e
    rw [if_neg hne]
    show (if a = S then _ else _) = _
    rw [if_neg hne]
    exact e
  | cons x rest ih =>
    intro j s b hd hb Rr hit hR
    obtain ⟨vs, n, hL, hv, hz⟩ := Rr.ob l _ ((hleS _).σ l _ hl)
    obtain ⟨bs, n', hB, hbv, _⟩ := Rr.ob S (.list [b, b]) (by simp [upd])
    obtain ⟨vb, vb', rfl, rb, rb'⟩ : ∃ v w, bs = [v, w] ∧ VRep s.heap v b ∧ VRep s.heap w b := by
      cases hbv with
      | cons x y => cases y with
        | cons x' y' => cases y'; exact ⟨_, _, rfl, x, x'⟩
    obtain ⟨ob, hob, hcls, hdat⟩ := id hit
    have hx : xs[j]? = some x := by
      have := congrArg List.head? hd
      simpa [List.head?_drop] using this
    have hxm : x ∈ xs := List.mem_of_getElem? hx
    obtain ⟨y, hy, ry⟩ := hv.get hx
    refine codeAny_builtin F.entry_min_loop ?_
    rw [Around.under_plainId F.plain_min_loop _]
    show wpAny _ A.in1 (seqItems? (.ref S) >>= _) _ _ s
    refine wpAny_bind (wpAny_seqItems hB rfl ?_)
    show wpAny _ A.in1 (tryCatch (pyNext (.ref I)) _ >>= _) _ _ s
    refine wpAny_bind (wpAny_tryCatch (wpAny_pyNext_list_item hit hL.isList (x := y) (by simpa using hy) fun h' hit' hs' => ?_))
    obtain ⟨R₁, g₁⟩ := Rr.other (tk := s.toks) (h' := h') hob hdat hK fun b o hb q => hs'.extBut b o hb q
    obtain ⟨ob₁, hob₁, hcls₁, hdat₁⟩ := id hit'
    show wpAny _ A.in1 (tryCatch (holding [y, y] (richCompare .Lt y vb' >>= _)) _ >>= _) _ _ _
    refine wpAny_bind (wpAny_tryCatch (wpAny_holding (wpAny_bind (wpAny_noRaise (wbind (hcmp x b hxm hb _ y vb' _ _ (R₁.moreK hob₁ hdat₁) (ry.grow g₁) (rb'.grow g₁)) ?_)))))
    rintro c s₂ ⟨c', st₂, rc, R₂', g₂, rfl, rfl⟩
    obtain rfl : c = .bool (lt x b) := rc
    have hit₂ : s₂.heap.IsListIter I l (j + 1) := ⟨ob₁, R₂'.keep _ _ (.inr ⟨rfl, rfl⟩), hcls₁, hdat₁⟩
    have R₂ : Rep B K L ⟨st.m, upd st.σ S (.list [b, b])⟩ s₂ := R₂'.lessK (fun b o q => .inl q) Rr.base
    refine wpAny_bind (wpAny_holding (wpAny_truthy_bool ?_))
    refine wpAny_bind (wpAny_letGo (wpAny_pure ?_))
    have hd' : xs.drop (j + 1) = rest := by
      have := congrArg List.tail hd
      simpa using this
    cases hb2 : lt x b with
    | true =>
      simp only [if_true]
      obtain ⟨bs', n'', hB', hbv', _⟩ := R₂.ob S (.list [b, b]) (by simp [upd])
      have e : ∀ b o, b ≠ S → s₂.heap.get? b = some o → (s₂.heap.update S (Obj.mapSeq fun _ => #[y, y])).get? b = some o := fun b o hb q => (Heap.get?_update_ne _ _ _ _ hb).trans q
      have hσS : (upd st.σ S (.list [b, b])) S = some (.list [b, b]) := by simp [upd]
      have g₃ := R₂.growMod hσS e
      have ry' := ry.grow (g₁.trans (g₂.trans g₃))
      have R₃ := R₂.mod (tk := s₂.toks) (h' := s₂.heap.update S (Obj.mapSeq fun _ => #[y, y])) (o := .list [x, x]) hσS e ⟨[y, y], _, IsL.update hB' (fun _ => #[y, y]), .cons ry' (.cons ry' .nil), by simp⟩
      have R₄ : Rep B K L ⟨st.m, upd st.σ S (.list [x, x])⟩ { s₂ with heap := s₂.heap.update S (Obj.mapSeq fun _ => #[y, y]) } := by rw [upd_upd] at R₃; exact R₃
      refine wpAny_bind (wpAny_updateSeq hB' rfl (wpAny_bind (wpAny_letGo ?_)) (hz := line_ok (by rw [List.size_toArray, hbv'.length]; simp)))
      rw [hname]
      refine wpAny_pure ⟨plainId_quiet F.plain_min_loop _, ih (j + 1) _ x hd' hxm R₄ ?_ fun v s' e1 e2 e3 => hR v s' ?_ e2 ((g₁.trans (g₂.trans g₃)).trans e3)⟩
      · exact ⟨ob₁, e I ob₁ (fun z => by
          subst z
          have q := R₂'.keep _ _ (.inr ⟨rfl, rfl⟩)
          have := hB'.symm.trans q
          simp at this
          rw [← this] at hdat₁
          simp at hdat₁) (R₂'.keep _ _ (.inr ⟨rfl, rfl⟩)), hcls₁, hdat₁⟩
      · simpa [pick, hb2] using e1
    | false =>
      simp only [Bool.false_eq_true, if_false]
      refine wpAny_bind (wpAny_letGo ?_)
      rw [hname]
      refine wpAny_pure ⟨plainId_quiet F.plain_min_loop _, ih (j + 1) _ b hd' hb R₂ hit₂ fun v s' e1 e2 e3 => hR v s' ?_ e2 ((g₁.trans g₂).trans e3)⟩
      simpa [pick, hb2] using e1

theorem min_list {x₀ : V} {r : List V} {Q : V → St → Prop} (hh : A.handled = none) (hcmp : ∀ x y, x ∈ x₀ :: r → y ∈ x₀ :: r → ∀ st, W2 B A.in1 L VRep (richCompare .Lt) x y st fun c st' => c = .bool (lt x y) ∧ st' = st)
    (hl : st.σ l = some (.list (x₀ :: r))) (h : Q (pick lt x₀ r) st) : WL B A L VRep (fun vs => call (.builtin "min") vs) [.ref l] st Q := fun vs K s Rr e => by
  cases e with
  | cons e1 e2 =>
  cases e2
  obtain rfl := (show _ = _ from e1)
  obtain ⟨vs, n, hL, hv, hz⟩ := Rr.ob l _ hl
  have hname : (toString "min" ++ toString ".loop" : String) = "min.loop" := by decide
  refine call_function_tree F.kind_min F.plain_min F.entry_min (F.args_min1 _) ?_
  show wpAny _ A.in1 (Builtin.Builtins.bindParams "min" ["key", "default"] 0 ⟨[], []⟩ >>= _) _ _ s
  refine wpAny_bind (wpAny_of_eq (show Builtin.Builtins.bindParams "min" ["key", "default"] 0 ⟨[], []⟩ = pure [none, none] from rfl) ?_)
  refine wpAny_bind (wpAny_pure ?_)
  refine wpAny_bind (wpAny_pyIter_list hL.isList ?_)
  refine wpAny_bind (wpAny_newObj_type ?_)
  rw [hname]
  refine wpAny_pure ⟨plainId_quiet F.plain_min_loop _, ?_⟩
  -- the first turn
  generalize hH1 : s.heap.push { cls := .type "list_iterator", data := .fields #[.ref l, .int 0 0] } = H1
  have hE1 : Ext s.heap H1 := hH1 ▸ Ext.push _ _
  have hE2 : Ext H1 (H1.push { cls := .type "list", data := .seq ([] : List Value).toArray }) := Ext.push _ _
  have hit0 : (H1.push { cls := .type "list", data := .seq ([] : List Value).toArray }).IsListIter s.heap.objs.size l 0 := ⟨_, hE2 _ _ (hH1 ▸ Heap.get?_push_size _ rfl), rfl, rfl⟩
  have hKI : ∀ o, ¬ K s.heap.objs.size o := fun o q => by have := Rr.keep _ o q; rw [size_none] at this; cases this
  have hKS : ∀ o, ¬ K H1.objs.size o := fun o q => by have := hE1 _ _ (Rr.keep _ o q); rw [size_none] at this; cases this
  have R1 := Rr.ext (tk := s.toks) hE1
  have hSf : st.σ H1.objs.size = none := R1.fresh (size_none _)
  have R2 : Rep B K L ⟨st.m, upd st.σ H1.objs.size (.list [])⟩ { s with heap := H1.push { cls := .type "list", data := .seq ([] : List Value).toArray } } :=
    R1.alloc (tk := s.toks) (o := .list []) hE2 (size_none _) ⟨[], 0, IsL.new _ _, .nil, by simp⟩
  have hSl : l ≠ H1.objs.size := fun z => by rw [← z, hl] at hSf; cases hSf
  obtain ⟨vs2, n2, hL2, hv2, hz2⟩ := R2.ob l (.list (x₀ :: r)) (by show (if l = _ then _ else _) = _; rw [if_neg hSl]; exact hl)
  have hB2 : IsL (H1.push { cls := .type "list", data := .seq ([] : List Value).toArray }) H1.objs.size #[] 0 := IsL.new _ _
  have hσS : (upd st.σ H1.objs.size (.list [])) H1.objs.size = some (.list []) := by simp [upd]
  generalize H1.push { cls := .type "list", data := .seq ([] : List Value).toArray } = H2 at hE2 hit0 R2 hL2 hv2 hB2 ⊢
  obtain ⟨ob, hob, hcls, hdat⟩ := id hit0
  obtain ⟨y, hy, ry⟩ := hv2.get (i := 0) (y := x₀) (by simp)
  refine codeAny_builtin F.entry_min_loop ?_
  rw [Around.under_plainId F.plain_min_loop _]
  show wpAny _ A.in1 (seqItems? (.ref H1.objs.size) >>= _) _ _ _
  refine wpAny_bind (wpAny_seqItems hB2 rfl ?_)
  show wpAny _ A.in1 (tryCatch (pyNext (.ref s.heap.objs.size)) _ >>= _) _ _ _
  refine wpAny_bind (wpAny_tryCatch (wpAny_pyNext_list_item hit0 hL2.isList (x := y) (by simpa using hy) fun h' hit' hs' => ?_))
  obtain ⟨R₃, g₃⟩ := R2.other (tk := s.toks) (h' := h') hob hdat hKI fun b o hb q => hs'.extBut b o hb q
  obtain ⟨ob₁, hob₁, hcls₁, hdat₁⟩ := id hit'
  obtain ⟨bs', n'', hB', hbv', _⟩ := R₃.ob H1.objs.size (.list []) hσS
  show wpAny _ A.in1 (updateSeq H1.objs.size (fun _ => #[y, y]) >>= _) _ _ _
  have e : ∀ b o, b ≠ H1.objs.size → h'.get? b = some o → (h'.update H1.objs.size (Obj.mapSeq fun _ => #[y, y])).get? b = some o := fun b o hb q => (Heap.get?_update_ne _ _ _ _ hb).trans q
  have g₄ := R₃.growMod hσS e
  have ry' := ry.grow (g₃.trans g₄)
  have R₄ := R₃.mod (tk := s.toks) (h' := h'.update H1.objs.size (Obj.mapSeq fun _ => #[y, y])) (o := .list [x₀, x₀]) hσS e ⟨[y, y], _, IsL.update hB' (fun _ => #[y, y]), .cons ry' (.cons ry' .nil), by simp⟩
  have R₅ : Rep B K L ⟨st.m, upd st.σ H1.objs.size (.list [x₀, x₀])⟩ { s with heap := h'.update H1.objs.size (Obj.mapSeq fun _ => #[y, y]) } := by rw [upd_upd] at R₄; exact R₄
  refine wpAny_bind (wpAny_updateSeq hB' rfl ?_ (hz := line_ok (by rw [List.size_toArray, hbv'.length]; simp)))
  rw [hname]
  have gg : Grow s.heap (h'.update H1.objs.size (Obj.mapSeq fun _ => #[y, y])) := (hE1.grow.trans hE2.grow).trans (g₃.trans g₄)
  refine wpAny_pure ⟨plainId_quiet F.plain_min_loop _, min_go (K := K) (xs := x₀ :: r) hh hcmp hl hSf hKI hKS r 1 _ x₀ rfl (.head _) R₅ ?_ fun v s' e1 e2 e3 => ⟨_, st, e1, e2, gg.trans e3, h⟩⟩
  exact ⟨ob₁, e _ ob₁ (fun z => by
    rw [z] at hob₁
    have := hB'.symm.trans hob₁
    simp at this
    rw [← this] at hdat₁
    simp at hdat₁) hob₁, hcls₁, hdat₁⟩
theorem max_go (hh : A.handled = none) (hcmp : ∀ x y, x ∈ xs → y ∈ xs → ∀ st, W2 B A.in1 L VRep (richCompare .Gt) x y st fun c st' => c = .bool (lt x y) ∧ st' = st) (hl : st.σ l = some (.list xs)) (hS : st.σ S = none)
    (hK : ∀ o, ¬ K I o) (hKS : ∀ o, ¬ K S o) :
    ∀ (rest : List V) (j : Nat) (s : Shared) (b : V), xs.drop j = rest → b ∈ xs → Rep B K L ⟨st.m, upd st.σ S (.list [b, b])⟩ s → s.heap.IsListIter I l j →
    (∀ v s', VRep s'.heap v (pick lt b rest) → Rep B K L st s' → Grow s.heap s'.heap → R (.ok (.ret v)) s') →
    codeAny (model B.prog B.w) A (.builtin "max.loop" ⟨[.ref I, .none, .ref S], []⟩) R s := by
  have hname : (toString "max" ++ toString ".loop" : String) = "max.loop" := by decide
  have hSl : S ≠ l := fun e => by rw [e, hl] at hS; cases hS
  have hleS : ∀ o, Le st ⟨st.m, upd st.σ S o⟩ := fun o => ⟨fun _ _ e => e, fun a o' e => by
    show (if a = S then _ else _) = _
    rw [if_neg (fun z => by rw [z, hS] at e; cases e)]; exact e⟩
  intro rest
  induction rest with
  | nil =>
    intro j s b hd hb Rr hit hR
    obtain ⟨vs, n, hL, hv, hz⟩ := Rr.ob l _ ((hleS _).σ l _ hl)
    obtain ⟨bs, n', hB, hbv, _⟩ := Rr.ob S (.list [b, b]) (by simp [upd])
    obtain ⟨vb, vb', rfl, rb, _⟩ : ∃ v w, bs = [v, w] ∧ VRep s.heap v b ∧ VRep s.heap w b := by
      cases hbv with
      | cons x y => cases y with
        | cons x' y' => cases y'; exact ⟨_, _, rfl, x, x'⟩
    obtain ⟨ob, hob, hcls, hdat⟩ := id hit
    refine codeAny_builtin F.entry_max_loop ?_
    rw [Around.under_plainId F.plain_max_loop _]
    show wpAny _ A.in1 (seqItems? (.ref S) >>= _) _ _ s
    refine wpAny_bind (wpAny_seqItems hB rfl ?_)
    show wpAny _ A.in1 (tryCatch (pyNext (.ref I)) _ >>= _) _ _ s
    have hj : vs.toArray[j]? = none := by
      have := hv.length
      have : xs.length ≤ j := by simpa using hd
      simp; omega
    refine wpAny_bind (wpAny_tryCatch (wpAny_pyNext_list_end hh hit hL.isList hj fun h' he => ?_))
    obtain ⟨R₁, g₁⟩ := Rr.other (tk := s.toks) (h' := h') hob hdat hK fun b o hb q => he b o hb q
    obtain ⟨bs', n'', hB', hbv', _⟩ := R₁.ob S (.list [b, b]) (by simp [upd])
    show wpAny _ A.in1 (updateSeq S (fun _ => #[]) >>= _) _ _ _
    have e : ∀ b o, b ≠ S → h'.get? b = some o → (h'.update S (Obj.mapSeq fun _ => #[])).get? b = some o := fun b o hb q => (Heap.get?_update_ne _ _ _ _ hb).trans q
    have hσS : (upd st.σ S (.list [b, b])) S = some (.list [b, b]) := by simp [upd]
    have R₂ := R₁.mod (tk := s.toks) (h' := h'.update S (Obj.mapSeq fun _ => #[])) (o := .list []) hσS e ⟨[], _, IsL.update hB' (fun _ => #[]), .nil, by simp⟩
    have g₂ := R₁.growMod hσS e
    refine wpAny_bind (wpAny_updateSeq hB' rfl (wpAny_bind (wpAny_letGo (wpAny_pure ?_))) (hz := line_ok (by rw [List.size_toArray, hbv'.length]; simp)))
    refine hR vb _ (rb.grow (g₁.trans g₂)) (R₂.weaken ⟨fun _ _ e => e, fun a o' e => ?_⟩) (g₁.trans g₂)
    show (if a = S then _ else _) = _
    have hne : a ≠ S := fun z => by rw [z, hS] at e; cases e
    rw [if_neg hne]
    show (if a = S then _ else _) = _
    rw [if_neg hne]
    exact e
  | cons x rest ih =>
    intro j s b hd hb Rr hit hR
    obtain ⟨vs, n, hL, hv, hz⟩ := Rr.ob l _ ((hleS _).σ l _ hl)
    obtain ⟨bs, n', hB, hbv, _⟩ := Rr.ob S (.list [b, b]) (by simp [upd])
    obtain ⟨vb, vb', rfl, rb, rb'⟩ : ∃ v w, bs = [v, w] ∧ VRep s.heap v b ∧ VRep s.heap w b := by
      cases hbv with
      | cons x y => cases y with
        | cons x' y' => cases y'; exact ⟨_, _, rfl, x, x'⟩
    obtain ⟨ob, hob, hcls, hdat⟩ := id hit
    have hx : xs[j]? = some x := by
      have := congrArg List.head? hd
      simpa [List.head?_drop] using this
    have hxm : x ∈ xs := List.mem_of_getElem? hx
    obtain ⟨y, hy, ry⟩ := hv.get hx
    refine codeAny_builtin F.entry_max_loop ?_
    rw [Around.under_plainId F.plain_max_loop _]
    show wpAny _ A.in1 (seqItems? (.ref S) >>= _) _ _ s
    refine wpAny_bind (wpAny_seqItems hB rfl ?_)
    show wpAny _ A.in1 (tryCatch (pyNext (.ref I)) _ >>= _) _ _ s
    refine wpAny_bind (wpAny_tryCatch (wpAny_pyNext_list_item hit hL.isList (x := y) (by simpa using hy) fun h' hit' hs' => ?_))
    obtain ⟨R₁, g₁⟩ := Rr.other (tk := s.toks) (h' := h') hob hdat hK fun b o hb q => hs'.extBut b o hb q
    obtain ⟨ob₁, hob₁, hcls₁, hdat₁⟩ := id hit'
    show wpAny _ A.in1 (tryCatch (holding [y, y] (richCompare .Gt y vb' >>= _)) _ >>= _) _ _ _
    refine wpAny_bind (wpAny_tryCatch (wpAny_holding (wpAny_bind (wpAny_noRaise (wbind (hcmp x b hxm hb _ y vb' _ _ (R₁.moreK hob₁ hdat₁) (ry.grow g₁) (rb'.grow g₁)) ?_)))))
    rintro c s₂ ⟨c', st₂, rc, R₂', g₂, rfl, rfl⟩
    obtain rfl : c = .bool (lt x b) := rc
    have hit₂ : s₂.heap.IsListIter I l (j + 1) := ⟨ob₁, R₂'.keep _ _ (.inr ⟨rfl, rfl⟩), hcls₁, hdat₁⟩
    have R₂ : Rep B K L ⟨st.m, upd st.σ S (.list [b, b])⟩ s₂ := R₂'.lessK (fun b o q => .inl q) Rr.base
    refine wpAny_bind (wpAny_holding (wpAny_truthy_bool ?_))
    refine wpAny_bind (wpAny_letGo (wpAny_pure ?_))
    have hd' : xs.drop (j + 1) = rest := by
      have := congrArg List.tail hd
      simpa using this
    cases hb2 : lt x b with
    | true =>
      simp only [if_true]
      obtain ⟨bs', n'', hB', hbv', _⟩ := R₂.ob S (.list [b, b]) (by simp [upd])
      have e : ∀ b o, b ≠ S → s₂.heap.get? b = some o → (s₂.heap.update S (Obj.mapSeq fun _ => #[y, y])).get? b = some o := fun b o hb q => (Heap.get?_update_ne _ _ _ _ hb).trans q
      have hσS : (upd st.σ S (.list [b, b])) S = some (.list [b, b]) := by simp [upd]
      have g₃ := R₂.growMod hσS e
      have ry' := ry.grow (g₁.trans (g₂.trans g₃))
      have R₃ := R₂.mod (tk := s₂.toks) (h' := s₂.heap.update S (Obj.mapSeq fun _ => #[y, y])) (o := .list [x, x]) hσS e ⟨[y, y], _, IsL.update hB' (fun _ => #[y, y]), .cons ry' (.cons ry' .nil), by simp⟩
      have R₄ : Rep B K L ⟨st.m, upd st.σ S (.list [x, x])⟩ { s₂ with heap := s₂.heap.update S (Obj.mapSeq fun _ => #[y, y]) } := by rw [upd_upd] at R₃; exact R₃
      refine wpAny_bind (wpAny_updateSeq hB' rfl (wpAny_bind (wpAny_letGo ?_)) (hz := line_ok (by rw [List.size_toArray, hbv'.length]; simp)))
      rw [hname]
      refine wpAny_pure ⟨plainId_quiet F.plain_max_loop _, ih (j + 1) _ x hd' hxm R₄ ?_ fun v s' e1 e2 e3 => hR v s' ?_ e2 ((g₁.trans (g₂.trans g₃)).trans e3)⟩
      · exact ⟨ob₁, e I ob₁ (fun z => by
          subst z
          have q := R₂'.keep _ _ (.inr ⟨rfl, rfl⟩)
          have := hB'.symm.trans q
          simp at this
          rw [← this] at hdat₁
          simp at hdat₁) (R₂'.keep _ _ (.inr ⟨rfl, rfl⟩)), hcls₁, hdat₁⟩
      · simpa [pick, hb2] using e1
    | false =>
      simp only [Bool.false_eq_true, if_false]
      refine wpAny_bind (wpAny_letGo ?_)
      rw [hname]
      refine wpAny_pure ⟨plainId_quiet F.plain_max_loop _, ih (j + 1) _ b hd' hb R₂ hit₂ fun v s' e1 e2 e3 => hR v s' ?_ e2 ((g₁.trans g₂).trans e3)⟩
      simpa [pick, hb2] using e1

theorem max_list {x₀ : V} {r : List V} {Q : V → St → Prop} (hh : A.handled = none) (hcmp : ∀ x y, x ∈ x₀ :: r → y ∈ x₀ :: r → ∀ st, W2 B A.in1 L VRep (richCompare .Gt) x y st fun c st' => c = .bool (lt x y) ∧ st' = st)
    (hl : st.σ l = some (.list (x₀ :: r))) (h : Q (pick lt x₀ r) st) : WL B A L VRep (fun vs => call (.builtin "max") vs) [.ref l] st Q := fun vs K s Rr e => by
  cases e with
  | cons e1 e2 =>
  cases e2
  obtain rfl := (show _ = _ from e1)
  obtain ⟨vs, n, hL, hv, hz⟩ := Rr.ob l _ hl
  have hname : (toString "max" ++ toString ".loop" : String) = "max.loop" := by decide
  refine call_function_tree F.kind_max F.plain_max F.entry_max (F.args_max1 _) ?_
  show wpAny _ A.in1 (Builtin.Builtins.bindParams "max" ["key", "default"] 0 ⟨[], []⟩ >>= _) _ _ s
  refine wpAny_bind (wpAny_of_eq (show Builtin.Builtins.bindParams "max" ["key", "default"] 0 ⟨[], []⟩ = pure [none, none] from rfl) ?_)
  refine wpAny_bind (wpAny_pure ?_)
  refine wpAny_bind (wpAny_pyIter_list hL.isList ?_)
  refine wpAny_bind (wpAny_newObj_type ?_)
  rw [hname]
  refine wpAny_pure ⟨plainId_quiet F.plain_max_loop _, ?_⟩
  -- the first turn
  generalize hH1 : s.heap.push { cls := .type "list_iterator", data := .fields #[.ref l, .int 0 0] } = H1
  have hE1 : Ext s.heap H1 := hH1 ▸ Ext.push _ _
  have hE2 : Ext H1 (H1.push { cls := .type "list", data := .seq ([] : List Value).toArray }) := Ext.push _ _
  have hit0 : (H1.push { cls := .type "list", data := .seq ([] : List Value).toArray }).IsListIter s.heap.objs.size l 0 := ⟨_, hE2 _ _ (hH1 ▸ Heap.get?_push_size _ rfl), rfl, rfl⟩
  have hKI : ∀ o, ¬ K s.heap.objs.size o := fun o q => by have := Rr.keep _ o q; rw [size_none] at this; cases this
  have hKS : ∀ o, ¬ K H1.objs.size o := fun o q => by have := hE1 _ _ (Rr.keep _ o q); rw [size_none] at this; cases this
  have R1 := Rr.ext (tk := s.toks) hE1
  have hSf : st.σ H1.objs.size = none := R1.fresh (size_none _)
  have R2 : Rep B K L ⟨st.m, upd st.σ H1.objs.size (.list [])⟩ { s with heap := H1.push { cls := .type "list", data := .seq ([] : List Value).toArray } } :=
    R1.alloc (tk := s.toks) (o := .list []) hE2 (size_none _) ⟨[], 0, IsL.new _ _, .nil, by simp⟩
  have hSl : l ≠ H1.objs.size := fun z => by rw [← z, hl] at hSf; cases hSf
  obtain ⟨vs2, n2, hL2, hv2, hz2⟩ := R2.ob l (.list (x₀ :: r)) (by show (if l = _ then _ else _) = _; rw [if_neg hSl]; exact hl)
  have hB2 : IsL (H1.push { cls := .type "list", data := .seq ([] : List Value).toArray }) H1.objs.size #[] 0 := IsL.new _ _
  have hσS : (upd st.σ H1.objs.size (.list [])) H1.objs.size = some (.list []) := by simp [upd]
  generalize H1.push { cls := .type "list", data := .seq ([] : List Value).toArray } = H2 at hE2 hit0 R2 hL2 hv2 hB2 ⊢
  obtain ⟨ob, hob, hcls, hdat⟩ := id hit0
  obtain ⟨y, hy, ry⟩ := hv2.get (i := 0) (y := x₀) (by simp)
  refine codeAny_builtin F.entry_max_loop ?_
  rw [Around.under_plainId F.plain_max_loop _]
  show wpAny _ A.in1 (seqItems? (.ref H1.objs.size) >>= _) _ _ _
  refine wpAny_bind (wpAny_seqItems hB2 rfl ?_)
  show wpAny _ A.in1 (tryCatch (pyNext (.ref s.heap.objs.size)) _ >>= _) _ _ _
  refine wpAny_bind (wpAny_tryCatch (wpAny_pyNext_list_item hit0 hL2.isList (x := y) (by simpa using hy) fun h' hit' hs' => ?_))
  obtain ⟨R₃, g₃⟩ := R2.other (tk := s.toks) (h' := h') hob hdat hKI fun b o hb q => hs'.extBut b o hb q
  obtain ⟨ob₁, hob₁, hcls₁, hdat₁⟩ := id hit'
  obtain ⟨bs', n'', hB', hbv', _⟩ := R₃.ob H1.objs.size (.list []) hσS
  show wpAny _ A.in1 (updateSeq H1.objs.size (fun _ => #[y, y]) >>= _) _ _ _
  have e : ∀ b o, b ≠ H1.objs.size → h'.get? b = some o → (h'.update H1.objs.size (Obj.mapSeq fun _ => #[y, y])).get? b = some o := fun b o hb q => (Heap.get?_update_ne _ _ _ _ hb).trans q
  have g₄ := R₃.growMod hσS e
  have ry' := ry.grow (g₃.trans g₄)
  have R₄ := R₃.mod (tk := s.toks) (h' := h'.update H1.objs.size (Obj.mapSeq fun _ => #[y, y])) (o := .list [x₀, x₀]) hσS e ⟨[y, y], _, IsL.update hB' (fun _ => #[y, y]), .cons ry' (.cons ry' .nil), by simp⟩
  have R₅ : Rep B K L ⟨st.m, upd st.σ H1.objs.size (.list [x₀, x₀])⟩ { s with heap := h'.update H1.objs.size (Obj.mapSeq fun _ => #[y, y]) } := by rw [upd_upd] at R₄; exact R₄
  refine wpAny_bind (wpAny_updateSeq hB' rfl ?_ (hz := line_ok (by rw [List.size_toArray, hbv'.length]; simp)))
  rw [hname]
  have gg : Grow s.heap (h'.update H1.objs.size (Obj.mapSeq fun _ => #[y, y])) := (hE1.grow.trans hE2.grow).trans (g₃.trans g₄)
  refine wpAny_pure ⟨plainId_quiet F.plain_max_loop _, max_go (K := K) (xs := x₀ :: r) hh hcmp hl hSf hKI hKS r 1 _ x₀ rfl (.head _) R₅ ?_ fun v s' e1 e2 e3 => ⟨_, st, e1, e2, gg.trans e3, h⟩⟩
  exact ⟨ob₁, e _ ob₁ (fun z => by
    rw [z] at hob₁
    have := hB'.symm.trans hob₁
    simp at this
    rw [← this] at hdat₁
    simp at hdat₁) hob₁, hcls₁, hdat₁⟩
end
end Mine
end

/-! ## S1 -/
section
namespace Mine
open PySem PySem.W PyProof.Rows

/-- the tree of asks, answered by lt along one path -/
noncomputable def RunsTo (lt : Nat → Nat → Bool) (n : Nat) {α : Type} : KasT α → α → Prop
  | .ret a, b => a = b
  | .ask i j k, b => i < n ∧ j < n ∧ RunsTo lt n (k (lt i j)) b
theorem RunsTo.bind {lt : Nat → Nat → Bool} {n : Nat} {α β : Type} {f : α → KasT β} {a : α} {b : β} : ∀ {t : KasT α}, RunsTo lt n t a → RunsTo lt n (f a) b → RunsTo lt n (t.bind f) b
  | .ret _, h1, h2 => by
    have : _ = a := h1
    subst this
    exact h2
  | .ask i j k, ⟨h1, h2, h3⟩, h => ⟨h1, h2, RunsTo.bind h3 h⟩
theorem RunsTo.wp {lt : Nat → Nat → Bool} {n : Nat} {α : Type} {cmp : Nat → Nat → (Bool → Shared → Prop) → Shared → Prop} {s : Shared} (hc : ∀ i j C, i < n → j < n → C (lt i j) s → cmp i j C s) {a : α} {Q : α → Shared → Prop} (hq : Q a s) :
    ∀ {t : KasT α}, RunsTo lt n t a → t.kasWp cmp Q s
  | .ret _, h => by
    have : _ = a := h
    subst this
    exact hq
  | .ask i j k, ⟨h1, h2, h3⟩ => hc i j _ h1 h2 (RunsTo.wp hc hq h3)

structure TotalOn (lt : Nat → Nat → Bool) (n : Nat) : Prop where
  trans : ∀ i j k, i < n → j < n → k < n → lt i j = true → lt j k = true → lt i k = true
  irrefl : ∀ i, lt i i = false
  total : ∀ i j, i < n → j < n → i ≠ j → lt i j = true ∨ lt j i = true

structure IsPerm (p : Array Nat) (n : Nat) : Prop where
  size : p.size = n
  lt : ∀ i, p.getD i 0 < n
  inj : ∀ i j, i < n → j < n → p.getD i 0 = p.getD j 0 → i = j
  perm : p.toList.Perm (List.range n)

theorem getD_of {p : Array Nat} {i : Nat} (h : i < p.size) : p[i]? = some (p.getD i 0) := by simp [Array.getD, h]
theorem getD_eq {p q : Array Nat} {i j : Nat} (h : p[i]? = q[j]?) : p.getD i 0 = q.getD j 0 := by
  rw [Array.getD_eq_getD_getElem?, Array.getD_eq_getD_getElem?, h]
theorem IsPerm.of {p : Array Nat} {n : Nat} (hn : 0 < n) (h : p.toList.Perm (List.range n)) : IsPerm p n := by
  have hz : p.size = n := by have := h.length_eq; simpa using this
  have hl : ∀ i, p.getD i 0 < n := fun i => by
    by_cases hi : i < p.size
    · have : p.getD i 0 ∈ p.toList := by
        have e : p.getD i 0 = p[i] := by simp [Array.getD, hi]
        rw [e]; simp
      have := h.mem_iff.mp this
      simpa using this
    · have e : p.getD i 0 = 0 := by simp [Array.getD, hi]
      rw [e]; exact hn
  refine ⟨hz, hl, fun i j hi hj e => ?_, h⟩
  have nd : p.toList.Nodup := h.nodup_iff.mpr List.nodup_range
  have hi' : i < p.toList.length := by simpa [hz] using hi
  have hj' : j < p.toList.length := by simpa [hz] using hj
  have e1 : p.getD i 0 = p.toList[i] := by simp [Array.getD, hz, hi]
  have e2 : p.getD j 0 = p.toList[j] := by simp [Array.getD, hz, hj]
  rw [e1, e2] at e
  exact (List.getElem_inj nd).mp e
theorem IsPerm.range {n : Nat} (hn : 0 < n) : IsPerm (List.toArray (List.range n)) n := IsPerm.of hn (by simp)

section
variable {lt : Nat → Nat → Bool} {n : Nat} {p : Array Nat}
def Asc (lt : Nat → Nat → Bool) (p : Array Nat) (m : Nat) : Prop := ∀ i j, i < j → j < m → lt (p.getD i 0) (p.getD j 0) = true
def Desc (lt : Nat → Nat → Bool) (p : Array Nat) (m : Nat) : Prop := ∀ i j, i < j → j < m → lt (p.getD j 0) (p.getD i 0) = true

theorem other (T : TotalOn lt n) (P : IsPerm p n) {i j : Nat} (hi : i < n) (hj : j < n) (hij : i ≠ j) (h : lt (p.getD i 0) (p.getD j 0) = false) : lt (p.getD j 0) (p.getD i 0) = true := by
  rcases T.total _ _ (P.lt i) (P.lt j) (fun e => hij (P.inj i j hi hj e)) with q | q
  · rw [h] at q; cases q
  · exact q
theorem asc_succ (T : TotalOn lt n) (P : IsPerm p n) {m : Nat} (hm : 1 ≤ m) (h : Asc lt p m) (hl : lt (p.getD (m - 1) 0) (p.getD m 0) = true) : Asc lt p (m + 1) := fun i j hij hj => by
  by_cases e : j < m
  · exact h i j hij e
  · have : j = m := by omega
    subst this
    by_cases e2 : i = j - 1
    · subst e2; exact hl
    · exact T.trans _ _ _ (P.lt _) (P.lt _) (P.lt _) (h i (j - 1) (by omega) (by omega)) hl
theorem desc_succ (T : TotalOn lt n) (P : IsPerm p n) {m : Nat} (hm : 1 ≤ m) (h : Desc lt p m) (hl : lt (p.getD m 0) (p.getD (m - 1) 0) = true) : Desc lt p (m + 1) := fun i j hij hj => by
  by_cases e : j < m
  · exact h i j hij e
  · have : j = m := by omega
    subst this
    by_cases e2 : i = j - 1
    · subst e2; exact hl
    · exact T.trans _ _ _ (P.lt _) (P.lt _) (P.lt _) hl (h i (j - 1) (by omega) (by omega))

theorem run_asc (T : TotalOn lt n) (P : IsPerm p n) : ∀ (f m : Nat), 1 ≤ m → m + f ≤ n → Asc lt p m → ∃ r, RunsTo lt n (kas_asc p f m) r ∧ m ≤ r ∧ r ≤ m + f ∧ Asc lt p r ∧ (r < m + f → lt (p.getD r 0) (p.getD (r - 1) 0) = true)
  | 0, m, h1, h2, h3 => ⟨m, rfl, Nat.le_refl _, Nat.le_refl _, h3, fun h => absurd h (Nat.lt_irrefl _)⟩
  | f + 1, m, h1, h2, h3 => by
    cases c : lt (p.getD m 0) (p.getD (m - 1) 0) with
    | true => exact ⟨m, ⟨P.lt _, P.lt _, by rw [c]; rfl⟩, Nat.le_refl _, by omega, h3, fun _ => c⟩
    | false =>
      obtain ⟨r, q1, q2, q3, q4, q5⟩ := run_asc T P f (m + 1) (by omega) (by omega) (asc_succ T P h1 h3 (other T P (by omega) (by omega) (by omega) c))
      exact ⟨r, ⟨P.lt _, P.lt _, by rw [c]; exact q1⟩, by omega, by omega, q4, fun h => q5 (by omega)⟩
theorem run_desc (T : TotalOn lt n) (P : IsPerm p n) : ∀ (f m : Nat), 1 ≤ m → m + f ≤ n → Desc lt p m → ∃ r, RunsTo lt n (kas_desc f p m 0) (p, r, 0) ∧ m ≤ r ∧ r ≤ m + f ∧ Desc lt p r
  | 0, m, h1, h2, h3 => ⟨m, rfl, Nat.le_refl _, Nat.le_refl _, h3⟩
  | f + 1, m, h1, h2, h3 => by
    cases c : lt (p.getD m 0) (p.getD (m - 1) 0) with
    | true =>
      obtain ⟨r, q1, q2, q3, q4⟩ := run_desc T P f (m + 1) (by omega) (by omega) (desc_succ T P h1 h3 c)
      exact ⟨r, ⟨P.lt _, P.lt _, by rw [c]; simpa using q1⟩, by omega, by omega, q4⟩
    | false =>
      have c' := other T P (by omega) (by omega) (by omega) c
      exact ⟨m, ⟨P.lt _, P.lt _, by rw [c]; exact ⟨P.lt _, P.lt _, by rw [c']; rfl⟩⟩, Nat.le_refl _, by omega, h3⟩
theorem rev_perm (P : IsPerm p n) (hn : 0 < n) (i j : Nat) : IsPerm (kas_rev p i j) n := IsPerm.of hn ((Array.perm_iff_toList_perm.mp (mirror_perm p i j _)).trans P.perm)
theorem rev_get (P : IsPerm p n) {j : Nat} (hj : j ≤ n) {k : Nat} (hk : k < j) : (kas_rev p 0 j).getD k 0 = p.getD (j - 1 - k) 0 := by
  refine getD_eq ?_
  show (mirror p 0 j ((j - 0) / 2))[k]? = _
  rw [getElem?_mirror_all (by rw [P.size]; exact hj), if_pos ⟨Nat.zero_le _, hk⟩]
  congr 1
  omega
theorem run_tail (T : TotalOn lt n) (P : IsPerm p n) {m : Nat} (h1 : 1 ≤ m) (h2 : m ≤ n) (h : Desc lt p m) : ∃ r p', RunsTo lt n (kas_tail3 m n p) (r, p') ∧ IsPerm p' n ∧ Asc lt p' r ∧ m ≤ r ∧ r ≤ n := by
  have P' := rev_perm P (by omega) 0 m
  have A' : Asc lt (kas_rev p 0 m) m := fun i j hij hj => by
    rw [rev_get P h2 (by omega), rev_get P h2 hj]
    exact h _ _ (by omega) (by omega)
  obtain ⟨r, q1, q2, q3, q4, _⟩ := run_asc T P' (n - m) m h1 (by omega) A'
  exact ⟨r, _, RunsTo.bind q1 rfl, P', q4, q2, by omega⟩
theorem run_count (T : TotalOn lt n) (P : IsPerm p n) (hn : 1 ≤ n) : ∃ r p', RunsTo lt n (kas_count n p) (r, p') ∧ IsPerm p' n ∧ Asc lt p' r ∧ 1 ≤ r ∧ r ≤ n := by
  obtain ⟨r, q1, q2, q3, q4, q5⟩ := run_asc T P (n - 1) 1 (Nat.le_refl _) (by omega) (fun i j hij hj => by omega)
  by_cases e : r = n
  · subst e
    exact ⟨r, p, RunsTo.bind q1 (by rw [if_pos (by simp)]; rfl), P, q4, hn, Nat.le_refl _⟩
  · have hlt := q5 (by omega)
    by_cases e2 : r > 1
    · refine ⟨r, p, RunsTo.bind q1 ?_, P, q4, by omega, by omega⟩
      rw [if_neg (by simpa using e), if_pos e2]
      refine ⟨P.lt _, P.lt _, ?_⟩
      rw [q4 0 (r - 1) (by omega) (by omega)]
      rfl
    · have : r = 1 := by omega
      subst this
      have D2 : Desc lt p 2 := fun i j hij hj => by
        have h1 : i = 0 := by omega
        have h2 : j = 1 := by omega
        subst h1 h2
        exact hlt
      obtain ⟨m, d1, d2, d3, d4⟩ := run_desc T P (n - 2) 2 (by omega) (by omega) D2
      obtain ⟨r', p', t1, t2, t3, t4, t5⟩ := run_tail T P (by omega : 1 ≤ m) (by omega) d4
      refine ⟨r', p', RunsTo.bind q1 ?_, t2, t3, by omega, t5⟩
      rw [if_neg (by simpa using e), if_neg e2]
      refine RunsTo.bind d1 ?_
      rw [if_neg (by simp)]
      exact t1
theorem run_place (T : TotalOn lt n) (P : IsPerm p n) {k : Nat} (hk : k < n) (hA : Asc lt p k) : ∀ (f l r : Nat), r - l ≤ f → l ≤ r → r ≤ k → (∀ i, i < l → lt (p.getD i 0) (p.getD k 0) = true) → (∀ i, r ≤ i → i < k → lt (p.getD k 0) (p.getD i 0) = true) →
    ∃ x, RunsTo lt n (kas_place p k f l r) x ∧ x ≤ k ∧ (∀ i, i < x → lt (p.getD i 0) (p.getD k 0) = true) ∧ (∀ i, x ≤ i → i < k → lt (p.getD k 0) (p.getD i 0) = true)
  | 0, l, r, h1, h2, h3, h4, h5 => ⟨l, rfl, by omega, h4, fun i hi => h5 i (by omega)⟩
  | f + 1, l, r, h1, h2, h3, h4, h5 => by
    unfold kas_place
    by_cases e : l ≥ r
    · rw [if_pos e]
      exact ⟨l, rfl, by omega, h4, fun i hi => h5 i (by omega)⟩
    · rw [if_neg e]
      cases c : lt (p.getD k 0) (p.getD ((l + r) / 2) 0) with
      | true =>
        obtain ⟨x, q1, q2, q3, q4⟩ := run_place T P hk hA f l ((l + r) / 2) (by omega) (by omega) (by omega) h4 fun i hi hik => by
          by_cases e2 : i = (l + r) / 2
          · rw [e2]; exact c
          · exact T.trans _ _ _ (P.lt _) (P.lt _) (P.lt _) c (hA _ _ (by omega) hik)
        exact ⟨x, ⟨P.lt _, P.lt _, by rw [c]; exact q1⟩, q2, q3, q4⟩
      | false =>
        have c' := other T P hk (by omega) (by omega) c
        obtain ⟨x, q1, q2, q3, q4⟩ := run_place T P hk hA f ((l + r) / 2 + 1) r (by omega) (by omega) h3 (fun i hi => by
          by_cases e2 : i = (l + r) / 2
          · rw [e2]; exact c'
          · exact T.trans _ _ _ (P.lt _) (P.lt _) (P.lt _) (hA _ _ (by omega) (by omega)) c') h5
        exact ⟨x, ⟨P.lt _, P.lt _, by rw [c]; exact q1⟩, q2, q3, q4⟩
theorem run_bin (T : TotalOn lt n) : ∀ (f : Nat) (p : Array Nat) (k : Nat), IsPerm p n → k + f = n → Asc lt p k → ∃ p', RunsTo lt n (kas_bin f p k) p' ∧ IsPerm p' n ∧ Asc lt p' n
  | 0, p, k, P, h1, h2 => ⟨p, rfl, P, by have : k = n := by omega
                                         subst this; exact h2⟩
  | f + 1, p, k, P, h1, h2 => by
    obtain ⟨x, q1, q2, q3, q4⟩ := run_place T P (by omega) h2 k 0 k (by omega) (by omega) (Nat.le_refl _) (fun i hi => by omega) (fun i hi hik => by omega)
    have hb : ∀ j, (bubble p k (k - x))[j]? = if j = x then p[k]? else if x < j ∧ j ≤ k then p[j - 1]? else p[j]? := fun j => by
      rw [getElem?_bubble (by rw [P.size]; omega) _ (by omega)]
      have : k - (k - x) = x := by omega
      rw [this]
    have g1 : (bubble p k (k - x)).getD x 0 = p.getD k 0 := getD_eq (by rw [hb, if_pos rfl])
    have g2 : ∀ j, x < j → j ≤ k → (bubble p k (k - x)).getD j 0 = p.getD (j - 1) 0 := fun j h3 h4 => getD_eq (by rw [hb, if_neg (by omega), if_pos ⟨h3, h4⟩])
    have g3 : ∀ j, j < x → (bubble p k (k - x)).getD j 0 = p.getD j 0 := fun j h3 => getD_eq (by rw [hb, if_neg (by omega), if_neg (by omega)])
    have P' : IsPerm (bubble p k (k - x)) n := IsPerm.of (by omega) ((Array.perm_iff_toList_perm.mp (bubble_perm p k _)).trans P.perm)
    have A' : Asc lt (bubble p k (k - x)) (k + 1) := fun i j hij hj => by
      rcases Nat.lt_trichotomy i x with hi | hi | hi
      · rw [g3 i hi]
        rcases Nat.lt_trichotomy j x with hj' | hj' | hj'
        · rw [g3 j hj']; exact h2 i j hij (by omega)
        · subst hj'; rw [g1]; exact q3 i hi
        · rw [g2 j hj' (by omega)]; exact h2 i (j - 1) (by omega) (by omega)
      · subst hi
        rw [g1, g2 j (by omega) (by omega)]
        exact q4 (j - 1) (by omega) (by omega)
      · rw [g2 i hi (by omega), g2 j (by omega) (by omega)]
        exact h2 (i - 1) (j - 1) (by omega) (by omega)
    obtain ⟨p', t1, t2, t3⟩ := run_bin T f _ (k + 1) P' (by omega) A'
    exact ⟨p', RunsTo.bind q1 t1, t2, t3⟩
theorem run_sort (T : TotalOn lt n) (hn : 1 ≤ n) : ∃ p, RunsTo lt n (kas_sort n) p ∧ IsPerm p n ∧ Asc lt p n := by
  obtain ⟨r, p', q1, q2, q3, q4, q5⟩ := run_count T (IsPerm.range (by omega)) hn
  unfold kas_sort
  by_cases e : r < n
  · obtain ⟨p2, t1, t2, t3⟩ := run_bin T (n - max r 1) p' (max r 1) q2 (by omega) (by
      have : max r 1 = r := by omega
      rw [this]; exact q3)
    exact ⟨p2, RunsTo.bind q1 (by rw [if_pos e]; exact t1), t2, t3⟩
  · have : r = n := by omega
    subst this
    exact ⟨p', RunsTo.bind q1 (by rw [if_neg e]; rfl), q2, q3⟩
end
end Mine
end

/-! ## M8 -/
section
set_option maxRecDepth 100000
namespace Mine
open PySem PySem.W PySem.Calls PyProof.Rows

theorem lex_irrefl : ∀ is : List Int, lexlt is is = false
  | [] => rfl
  | i :: is => by simp [lexlt, lex_irrefl is]
theorem lex_trans : ∀ {is js ks : List Int}, lexlt is js = true → lexlt js ks = true → lexlt is ks = true
  | [], _, [], _, h => by
    rename_i js _
    cases js <;> simp [lexlt] at h
  | [], _, _ :: _, _, _ => rfl
  | _ :: _, [], _, h, _ => by simp [lexlt] at h
  | _ :: _, _ :: _, [], _, h => by simp [lexlt] at h
  | i :: is, j :: js, k :: ks, h1, h2 => by
    simp only [lexlt] at h1 h2 ⊢
    by_cases e1 : i = j
    · subst e1
      by_cases e2 : i = k
      · subst e2
        simp only [if_true] at h1 h2 ⊢
        exact lex_trans h1 h2
      · simp only [e2, if_false, if_true] at h1 h2 ⊢
        exact h2
    · simp only [e1, if_false, decide_eq_true_eq] at h1
      by_cases e2 : j = k
      · subst e2
        simp only [e1, if_false, decide_eq_true_eq]
        exact h1
      · simp only [e2, if_false, decide_eq_true_eq] at h2
        have : i ≠ k := by omega
        simp only [this, if_false, decide_eq_true_eq]
        omega
theorem lex_total : ∀ {is js : List Int}, is.length = js.length → is ≠ js → lexlt is js = true ∨ lexlt js is = true
  | [], [], _, h => absurd rfl h
  | [], _ :: _, h, _ => by simp at h
  | _ :: _, [], h, _ => by simp at h
  | i :: is, j :: js, h, hne => by
    by_cases e : i = j
    · subst e
      simp only [lexlt, if_true]
      exact lex_total (by simpa using h) (fun z => hne (by rw [z]))
    · simp only [lexlt, e, Ne.symm e, if_false, decide_eq_true_eq]
      omega

section
variable {prog : Program} {w : World} {A : Around} {E : Value → Shared → Prop} {s : Shared}
theorem katLex_ints {b : Bool} {Q : Bool → Shared → Prop} {us : List Value} {is : List Int} (hi : IntsAre us is) : ∀ {vs : List Value} {js : List Int} (k : Nat), IntsAre vs js → is.length = js.length → Q (lexlt is js) s → KatLex prog w A b false Q (us.zip vs) k s := by
  induction hi with
  | nil =>
    intro vs js k hj hl h
    cases hj with
    | nil => exact kat_nil h
    | cons => simp at hl
  | cons i t hi ih =>
    intro vs js k hj hl h
    cases hj with
    | nil => simp at hl
    | cons j u hj =>
      rw [List.zip_cons_cons]
      refine kat_cons (wpAny_eqBool_int ?_)
      by_cases e : i = j
      · subst e
        rw [beq_self_eq_true]
        exact kat_yes (ih (k + 1) hj (by simpa using hl) (by simpa [lexlt] using h))
      · have hne : (i == j) = false := by simpa using e
        rw [hne]
        have h' : Q (decide (i < j)) s := by simpa [lexlt, e] using h
        refine kat_no ?_
        cases hb : (b && k == 0) with
        | true => exact oneLt_int h'
        | false => exact kat_one _ _ (lt_int h')

def Ord (b : Bool) (ys : List (List Int)) : Prop := if b = true then ys.Pairwise (fun x y => lexlt y x = true) else ys.Pairwise (fun x y => lexlt x y = true)

theorem reps_rev {h : Heap} : ∀ {us : List Value} {xs : List V}, VReps h us xs → VReps h us.reverse xs.reverse
  | _, _, .nil => .nil
  | _, _, .cons a r => by
    rw [List.reverse_cons, List.reverse_cons]
    exact (reps_rev r).append (.cons a .nil)
theorem reps_getD {h : Heap} {us : List Value} {tss : List (List Int)} (hv : VReps h us (tss.map V.tup)) {i : Nat} (hi : i < us.length) :
    ∃ a vs n, us.getD i .none = .ref a ∧ IsT h a vs.toArray n ∧ IntsAre vs (tss.getD i []) := by
  have hl : i < tss.length := by have := hv.length; simp at this; omega
  obtain ⟨v, q1, q2⟩ := hv.get (i := i) (y := V.tup tss[i]) (by simp [hl])
  obtain ⟨a, vs, n, e1, e2, e3⟩ := q2
  refine ⟨a, vs, n, ?_, e2, ?_⟩
  · rw [List.getD_eq_getElem?_getD, q1, e1]; rfl
  · rw [List.getD_eq_getElem?_getD]; simpa [hl] using e3
theorem reps_pick {h : Heap} {us : List Value} {tss : List (List Int)} (hv : VReps h us (tss.map V.tup)) : ∀ (p : List Nat), (∀ i ∈ p, i < us.length) → VReps h (p.map fun i => us.getD i .none) ((p.map fun i => tss.getD i []).map V.tup)
  | [], _ => .nil
  | i :: p, hp => by
    obtain ⟨a, vs, n, e1, e2, e3⟩ := reps_getD hv (hp i (.head _))
    exact .cons ⟨a, vs, n, e1, e2, e3⟩ (reps_pick hv p fun j hj => hp j (.tail _ hj))
theorem getD_range {α : Type} (l : List α) (d : α) : (List.range l.length).map (fun i => l.getD i d) = l := by
  apply List.ext_getElem?
  intro i
  by_cases h : i < l.length
  · simp [h]
  · simp [h, Nat.le_of_not_lt h]

/-- what the sort's tree gives for distinct tuples -/
theorem sort_tups (tss : List (List Int)) (hlen : ∀ t ∈ tss, ∀ t' ∈ tss, t.length = t'.length) (hnd : tss.Nodup) (h1 : 1 ≤ tss.length) :
    ∃ p, RunsTo (fun i j => lexlt (tss.getD i []) (tss.getD j [])) tss.length (kas_sort tss.length) p ∧ (∀ i ∈ p.toList, i < tss.length) ∧ p.size = tss.length ∧
      (p.toList.map fun i => tss.getD i []).Perm tss ∧ (p.toList.map fun i => tss.getD i []).Pairwise (fun x y => lexlt x y = true) := by
  have hmem : ∀ i, i < tss.length → tss.getD i [] ∈ tss := fun i hi => by rw [List.getD_eq_getElem?_getD]; simp [hi]
  have T : TotalOn (fun i j => lexlt (tss.getD i []) (tss.getD j [])) tss.length := by
    refine ⟨fun i j k _ _ _ a b => lex_trans a b, fun i => lex_irrefl _, fun i j hi hj hij => lex_total (hlen _ (hmem i hi) _ (hmem j hj)) fun e => hij ?_⟩
    have e1 : tss.getD i [] = tss[i] := by rw [List.getD_eq_getElem?_getD]; simp [hi]
    have e2 : tss.getD j [] = tss[j] := by rw [List.getD_eq_getElem?_getD]; simp [hj]
    rw [e1, e2] at e
    exact (List.getElem_inj hnd).mp e
  obtain ⟨p, q1, q2, q3⟩ := run_sort T h1
  refine ⟨p, q1, fun i hi => ?_, q2.size, ?_, ?_⟩
  · have := q2.perm.mem_iff.mp hi
    simpa using this
  · have := q2.perm.map (fun i => tss.getD i [])
    rwa [getD_range] at this
  · rw [List.pairwise_map, List.pairwise_iff_getElem]
    intro i j hi hj hij
    have hi' : i < p.size := by simpa using hi
    have hj' : j < p.size := by simpa using hj
    have := q3 i j hij (by rw [← q2.size]; exact hj')
    have e1 : p.getD i 0 = p.toList[i] := by simp [Array.getD, hi']
    have e2 : p.getD j 0 = p.toList[j] := by simp [Array.getD, hj']
    rw [e1, e2] at this
    exact this

theorem firsts_of {h : Heap} : ∀ {us : List Value} {tss : List (List Int)}, VReps h us (tss.map V.tup) → (∀ t ∈ tss, t ≠ []) → ∃ fs, KatTups h us fs ∧ fs.length = us.length ∧ ∀ v ∈ fs, ∃ i t, v = Value.int i t
  | _, [], hv, _ => by
    cases hv
    exact ⟨[], KatTups.nil, rfl, fun v hv => nomatch hv⟩
  | _, t :: tss, hv, hne => by
    cases hv with
    | cons a r =>
      obtain ⟨ad, vs, n, rfl, e2, e3⟩ := a
      obtain ⟨fs, q1, q2, q3⟩ := firsts_of r fun x hx => hne x (.tail _ hx)
      cases e3 with
      | nil => exact absurd rfl (hne [] (.head _))
      | cons i tk e3 =>
        exact ⟨.int i tk :: fs, KatTups.cons e2 rfl rfl (by simp) q1, by simp [q2], fun v hv => by
          cases hv with
          | head => exact ⟨i, tk, rfl⟩
          | tail _ hv => exact q3 v hv⟩

theorem ask_tups {us : List Value} {tss : List (List Int)} (hv : VReps s.heap us (tss.map V.tup)) (hlen : ∀ t ∈ tss, ∀ t' ∈ tss, t.length = t'.length) (i j : Nat) (C : Bool → Shared → Prop) (hi : i < tss.length) (hj : j < tss.length)
    (h : C (lexlt (tss.getD i []) (tss.getD j [])) s) : kas_ask prog w A (tuples' true) us i j C s := by
  have hl : us.length = tss.length := by have := hv.length; simpa using this
  obtain ⟨a, vs, n, e1, e2, e3⟩ := reps_getD hv (i := i) (by omega)
  obtain ⟨a', vs', n', e1', e2', e3'⟩ := reps_getD hv (i := j) (by omega)
  have hmem : ∀ i, i < tss.length → tss.getD i [] ∈ tss := fun i hi => by rw [List.getD_eq_getElem?_getD]; simp [hi]
  have hll := hlen _ (hmem i hi) _ (hmem j hj)
  unfold kas_ask
  rw [e1, e1']
  refine kat_lt e2 rfl e2' rfl ?_
  have hz : decide (vs.toArray.size < vs'.toArray.size) = false := by
    have := e3.length
    have := e3'.length
    simp; omega
  rw [hz]
  exact katLex_ints e3 0 e3' hll h

theorem list_sort_tups {a : Addr} {us : List Value} {tss : List (List Int)} {n : Nat} {b : Bool} {P : PySem.Fin → Shared → Prop} (ho : s.heap.get? a = some (seqObj "list" us.toArray n)) (hv : VReps s.heap us (tss.map V.tup))
    (hne : ∀ t ∈ tss, t ≠ []) (hlen : ∀ t ∈ tss, ∀ t' ∈ tss, t.length = t'.length) (hnd : tss.Nodup) (h2 : 2 ≤ tss.length) (h64 : tss.length < 64)
    (h : ∀ h' (out : List Value) (ys : List (List Int)) c, (∀ b o, b ≠ a → s.heap.get? b = some o → h'.get? b = some o) → h'.get? a = some (seqObj "list" out.toArray c) → VReps s.heap out (ys.map V.tup) → ys.Perm tss → Ord b ys → P (.done (.ret .none)) { s with heap := h' }) :
    wpAny (model prog w) A (Builtin.«list.sort» ⟨[.ref a], [(Str.ofString "reverse", .bool b)]⟩) P E s := by
  have hl : us.length = tss.length := by have := hv.length; simpa using this
  rw [list_sort_rev]
  have ha : a < s.heap.objs.size := Heap.lt_size ho
  refine wpAny_bind (listItems_at ho rfl ?_)
  refine wpAny_bind (listUpdate_at ho rfl ?_ (line_ok (by simp; omega)) (by simp))
  obtain ⟨e1, ho1⟩ : ∃ e1, (s.heap.update a (Obj.mapSeq fun _ => #[])).get? a = some (seqObj "list" #[] e1) := ⟨_, get?_update_seq ho (fun _ => #[])⟩
  refine wpAny_bind (seqEpoch_at ho1 rfl ?_)
  refine wpAny_bind (wpAny_newTuple ?_ (line_ok (by simp; omega)))
  refine wpAny_bind (wpAny_newList ?_ (line_ok (by simp)))
  refine wpAny_holding ?_
  generalize hH : ((s.heap.update a (Obj.mapSeq fun _ => (#[] : Array Value))).push { cls := .type "tuple", data := .seq (us.toArray.toList).toArray }).push { cls := .type "list", data := .seq ([] : List Value).toArray } = H
  have hk : ∀ b o, b ≠ a → s.heap.get? b = some o → H.get? b = some o := fun b o hb q => by
    rw [← hH]
    exact Heap.get?_push_of_some _ (Heap.get?_push_of_some _ ((Heap.get?_update_ne _ _ _ _ hb).trans q))
  have hHa : H.get? a = some (seqObj "list" #[] e1) := by
    rw [← hH]
    exact Heap.get?_push_of_some _ (Heap.get?_push_of_some _ ho1)
  have gH : Grow s.heap H := fun b vs n q => hk b _ (fun z => by
    subst z
    have := ho.symm.trans q
    simp at this) q
  have step : ∀ t : Sem PySem.Fin, wpAny (model prog w) A t P E { s with heap := H } → wpAny (model prog w) A (if b = true then (do let _ ← rule "list.sort.reverse"; t) else t) P E { s with heap := H } := by
    intro t ht
    split
    · exact wpAny_bind (wpAny_rule ht)
    · exact ht
  refine step _ ?_
  have hn2 : ¬ us.toArray.size < 2 := by rw [List.size_toArray]; omega
  rw [if_neg hn2, if_neg hn2]
  have hvH := hv.grow gH
  obtain ⟨fs, f1, f2, f3⟩ := firsts_of hvH hne
  refine wpAny_bind (kat_kind (T := .type "int") f1 (by omega) (fun v hv => by obtain ⟨i, t, rfl⟩ := f3 v hv; exact Looks.of_pure rfl) (by simp) ?_)
  rw [kat_pairs b rfl]
  have htk : ((Value.type "int" != Value.type "tuple") : Bool) = true := by decide
  rw [htk]
  -- the list as it is sorted
  have hvR : VReps H (katRev b us) ((katRev b tss).map V.tup) := by
    unfold katRev
    cases b with
    | true => simp only [if_true, List.map_reverse]; exact reps_rev hvH
    | false => simpa using hvH
  have hpR : (katRev b tss).Perm tss := by
    unfold katRev
    cases b with
    | true => simp only [if_true]; exact List.reverse_perm _
    | false => simp
  have hlR : (katRev b us).length = (katRev b tss).length := by rw [kat_len, kat_len, hl]
  obtain ⟨p, r1, r2, r3, r4, r5⟩ := sort_tups (katRev b tss) (fun t ht t' ht' => hlen t (hpR.mem_iff.mp ht) t' (hpR.mem_iff.mp ht')) (hpR.nodup_iff.mpr hnd) (by rw [kat_len]; omega)
  have hlR' : (katRev b us).length = tss.length := by rw [kat_len, hl]
  refine wpAny_bind (wpAny_mono (kat_run (κ := tuples' true) (s := { s with heap := H }) (ks := katRev b us) (vs := katRev b us) (Q := fun st' s' => s' = { s with heap := H } ∧ arrOf st' = p.map (kas_item ((katRev b us).toArray.zip (katRev b us).toArray)) ∧ failedOf st' = none)
    (G := fun p' s' => p' = p ∧ s' = { s with heap := H }) rfl (by omega) (by omega) (fun p' st' s' a1 a2 a3 a4 => ⟨a4.2, by rw [a2, a4.1], a3⟩) ?_) ?_ fun _ _ e => e)
  · rw [hlR]
    exact RunsTo.wp (fun i j C hi hj hC => ask_tups (s := { s with heap := H }) hvR (fun t ht t' ht' => hlen t (hpR.mem_iff.mp ht) t' (hpR.mem_iff.mp ht')) i j C hi hj hC) ⟨rfl, rfl⟩ r1
  · rintro ⟨⟨⟩, st'⟩ s' ⟨rfl, har, hf⟩
    dsimp only
    have hout := kat_snds rfl har
    rw [hout, kat_outs]
    refine wpAny_bind (seqEpoch_at hHa rfl ?_)
    refine wpAny_bind (listUpdate_at hHa rfl ?_ (by simp) (by
      have : (katRev b (p.toList.map fun i => (katRev b us).getD i Value.none)).length = tss.length := by rw [kat_len, List.length_map, Array.length_toList, r3, kat_len]
      show (List.toArray _).size ≤ _
      rw [List.size_toArray, this, sizeLine_eq]; omega))
    rw [hf]
    simp only [bne_self_eq_false, Bool.false_eq_true, if_false]
    refine wpAny_pure (h _ (katRev b (p.toList.map fun i => (katRev b us).getD i Value.none)) (katRev b (p.toList.map fun i => (katRev b tss).getD i [])) _ (fun b' o hb q => (Heap.get?_update_ne _ _ _ _ hb).trans (hk b' o hb q)) (get?_update_seq hHa fun _ => _) ?_ ?_ ?_)
    · have hvR' : VReps s.heap (katRev b us) ((katRev b tss).map V.tup) := by
        unfold katRev
        cases b with
        | true => simp only [if_true, List.map_reverse]; exact reps_rev hv
        | false => simpa using hv
      have q := reps_pick hvR' p.toList fun i hi => by rw [hlR]; exact r2 i hi
      generalize hA : (p.toList.map fun i => (katRev b us).getD i Value.none) = A1 at q
      generalize hB : (p.toList.map fun i => (katRev b tss).getD i []) = B1 at q
      unfold katRev
      cases b with
      | true => simp only [if_true, List.map_reverse]; exact reps_rev q
      | false => simpa using q
    · refine List.Perm.trans ?_ (r4.trans hpR)
      generalize (p.toList.map fun i => (katRev b tss).getD i []) = B1
      unfold katRev
      cases b with
      | true => simp only [if_true]; exact List.reverse_perm _
      | false => simp
    · generalize (p.toList.map fun i => (katRev b tss).getD i []) = B1 at r5
      unfold Ord katRev
      cases b with
      | true => simp only [if_true]; rw [List.pairwise_reverse]; exact r5
      | false => simpa using r5
end
end Mine
end

/-! ## M9 -/
section
set_option maxRecDepth 100000
namespace Mine
open PySem PySem.W PySem.Calls PyProof.Rows

theorem sort_plain_eq (a : Addr) : Builtin.«list.sort» ⟨[.ref a], []⟩ = Builtin.«list.sort» ⟨[.ref a], [(Str.ofString "reverse", .bool false)]⟩ := by
  rw [list_sort_plain, list_sort_rev]
  rfl

section
variable {prog : Program} {w : World} {A : Around} {E : Value → Shared → Prop} {s : Shared} {l : Addr} {us : List Value} {tss : List (List Int)} {n : Nat} {b : Bool} {Q : Value → Shared → Prop}

theorem sorted_h (hl : IsL s.heap l us.toArray n) (hv : VReps s.heap us (tss.map V.tup))
    (hne : ∀ t ∈ tss, t ≠ []) (hlen : ∀ t ∈ tss, ∀ t' ∈ tss, t.length = t'.length) (hnd : tss.Nodup) (h2 : 2 ≤ tss.length) (h64 : tss.length < 64)
    (h : ∀ h' a (out : List Value) (ys : List (List Int)) c, Ext s.heap h' → s.heap.get? a = none → IsL h' a out.toArray c → VReps h' out (ys.map V.tup) → ys.Perm tss → Ord b ys → Q (.ref a) { s with heap := h' }) :
    wpAny (model prog w) A (call (.builtin "sorted") [.ref l] [(Str.ofString "reverse", .bool b)]) Q E s ∧
    (b = false → wpAny (model prog w) A (call (.builtin "sorted") [.ref l]) Q E s) := by
  have hL : us.length = tss.length := by have := hv.length; simpa using this
  have hsz : ((s.heap.push (seqObj "list" #[] 0)).update s.heap.objs.size (Obj.mapSeq (· ++ us.toArray))).objs.size = s.heap.objs.size + 1 := by
    rw [Heap.size_update, size_push']
  generalize hH : ((s.heap.push (seqObj "list" #[] 0)).update s.heap.objs.size (Obj.mapSeq (· ++ us.toArray))) = H at hsz
  have hoL : (H.push (seqObj "list" us.toArray 0)).get? (s.heap.objs.size + 1) = some (seqObj "list" us.toArray 0) := by
    rw [← hsz]; exact Heap.get?_push_size _ rfl
  have hE : Ext s.heap (H.push (seqObj "list" us.toArray 0)) := fun b o q => by
    have hlt : b < s.heap.objs.size := Heap.lt_size q
    refine Heap.get?_push_of_some _ ?_
    rw [← hH, Heap.get?_update_ne _ _ _ _ (Nat.ne_of_lt hlt)]
    exact Heap.get?_push_of_some _ q
  have hfr : s.heap.get? (s.heap.objs.size + 1) = none := by
    cases e : s.heap.get? (s.heap.objs.size + 1) with
    | none => rfl
    | some o => exact absurd (Heap.lt_size e) (Nat.not_lt.mpr (Nat.le_succ _))
  have key : ∀ (P : PySem.Fin → Shared → Prop) (E' : Value → Shared → Prop) (A' : Around), (∀ h' (out : List Value) (ys : List (List Int)) c, Ext s.heap h' → IsL h' (s.heap.objs.size + 1) out.toArray c → VReps h' out (ys.map V.tup) → ys.Perm tss → Ord b ys → P (.done (.ret .none)) { s with heap := h' }) →
      wpAny (model prog w) A' (Builtin.«list.sort» ⟨[.ref (s.heap.objs.size + 1)], [(Str.ofString "reverse", .bool b)]⟩) P E' { s with heap := H.push (seqObj "list" us.toArray 0) } := by
    intro P E' A' hP
    refine list_sort_tups (s := { s with heap := H.push (seqObj "list" us.toArray 0) }) hoL (hv.grow hE.grow) hne hlen hnd h2 h64 fun h' out ys c k1 k2 k3 k4 k5 => ?_
    have hE' : Ext s.heap h' := fun b o q => k1 b o (fun z => by rw [z, hfr] at q; cases q) (hE b o q)
    have g' : Grow (H.push (seqObj "list" us.toArray 0)) h' := fun b vs m q => k1 b _ (fun z => by
      subst z
      have := hoL.symm.trans q
      simp at this) q
    exact hP h' out ys c hE' k2 (k3.grow g') k4 k5
  constructor
  · refine call_function_entry_kw kind_sorted plain_sorted entry_sorted (args_sorted_rev _ _) ?_
    unfold Builtin.«sorted»
    refine wpAny_bind (m := checkCount "sorted" 1 1 _) (wpAny_pure ?_)
    refine wpAny_bind (collect_list hl.isList ?_ (line_ok (by omega)))
    refine wpAny_bind (wpAny_newList ?_ (line_ok (by omega)))
    rw [hH]
    show wpAny _ _ _ _ _ { s with heap := H.push (seqObj "list" us.toArray 0) }
    rw [hsz]
    refine wpAny_bind (wpAny_holding (wpAny_call_entry_kw slot_list_sort ⟨_, hoL, rfl⟩ entry_list_sort (key _ _ _ fun h' out ys c k1 k2 k3 k4 k5 => ⟨_, rfl, ?_⟩) (args_list_sort_rev _ _)))
    exact wpAny_pure ⟨_, rfl, h h' _ out ys c k1 hfr k2 k3 k4 k5⟩
  · intro hb
    subst hb
    refine call_function_entry kind_sorted plain_sorted entry_sorted (args_sorted1 _) ?_
    unfold Builtin.«sorted»
    refine wpAny_bind (m := checkCount "sorted" 1 1 _) (wpAny_pure ?_)
    refine wpAny_bind (collect_list hl.isList ?_ (line_ok (by omega)))
    refine wpAny_bind (wpAny_newList ?_ (line_ok (by omega)))
    rw [hH]
    show wpAny _ _ _ _ _ { s with heap := H.push (seqObj "list" us.toArray 0) }
    rw [hsz]
    refine wpAny_bind (wpAny_holding (wpAny_call_entry slot_list_sort ⟨_, hoL, rfl⟩ entry_list_sort (by rw [sort_plain_eq]; exact key _ _ _ fun h' out ys c k1 k2 k3 k4 k5 => ⟨_, rfl, wpAny_pure ⟨_, rfl, h h' _ out ys c k1 hfr k2 k3 k4 k5⟩⟩) (args_list_sort _)))
end

section
variable {B : Bs} {A : Around} {env : Env} {st : St} {L : Addr}

def SortPost (tss : List (List Int)) (b : Bool) (st : St) (Q : V → St → Prop) : Prop :=
  ∀ a ys, st.σ a = none → ys.Perm tss → Ord b ys → Q (.ref a) ⟨st.m, upd st.σ a (.list (ys.map V.tup))⟩
structure SortPre (tss : List (List Int)) : Prop where
  ne : ∀ t ∈ tss, t ≠ []
  len : ∀ t ∈ tss, ∀ t' ∈ tss, t.length = t'.length
  nd : tss.Nodup
  two : 2 ≤ tss.length
  few : tss.length < 64
theorem sorted_l {l : Addr} {tss : List (List Int)} {Q : V → St → Prop} (hl : st.σ l = some (.list (tss.map V.tup))) (hp : SortPre tss) (h : SortPost tss false st Q) : WL B A L VRep (fun vs => call (.builtin "sorted") vs) [.ref l] st Q := fun vs K s R e => by
  cases e with
  | cons e1 e2 =>
    cases e2
    obtain rfl := (show _ = _ from e1)
    obtain ⟨vs, n, hL, hv, hz⟩ := R.ob l _ hl
    refine (sorted_h (b := false) hL hv hp.ne hp.len hp.nd hp.two hp.few fun h' a out ys c k1 k2 k3 k4 k5 k6 => ?_).2 rfl
    exact ⟨V.ref a, _, rfl, R.alloc (tk := s.toks) (o := .list (ys.map V.tup)) k1 k2 ⟨out, c, k3, k4, by rw [List.length_map, k5.length_eq]; have := hp.few; omega⟩, k1.grow, h a ys (R.fresh k2) k5 k6⟩
theorem sorted_lr {l : Addr} {tss : List (List Int)} {b : Bool} {Q : V → St → Prop} (hl : st.σ l = some (.list (tss.map V.tup))) (hp : SortPre tss) (h : SortPost tss b st Q) : W2 B A L VRep (fun v w => call (.builtin "sorted") [v] [(Str.ofString "reverse", w)]) (.ref l) (.bool b) st Q := fun v w K s R e e' => by
  obtain rfl : v = .ref l := e
  obtain rfl : w = .bool b := e'
  obtain ⟨vs, n, hL, hv, hz⟩ := R.ob l _ hl
  refine (sorted_h (b := b) hL hv hp.ne hp.len hp.nd hp.two hp.few fun h' a out ys c k1 k2 k3 k4 k5 k6 => ?_).1
  exact ⟨V.ref a, _, rfl, R.alloc (tk := s.toks) (o := .list (ys.map V.tup)) k1 k2 ⟨out, c, k3, k4, by rw [List.length_map, k5.length_eq]; have := hp.few; omega⟩, k1.grow, h a ys (R.fresh k2) k5 k6⟩

/-- a built-in by its name with one argument and one keyword -/
theorem E_builtKw {f : Str} {id : String} {np : Pos} {e : Expr} {pos : Pos} {kw : Str} {kv : Expr} {kp : Pos} {Q : V → St → Prop} (BO : BOk B) (hm : B.mg f = none) (hb : bootBuiltins f = some (.builtin id))
    (h : WE B A env e st fun v st₁ => WE B A env kv st₁ fun u st₂ => W2 B A env.locals VRep (fun v w => call (.builtin id) [v] [(kw, w)]) v u st₂ Q)
    (hg : env.globals = mainGlobals := by rfl) (hbn : env.builtins = builtinsNs := by rfl) (hk : env.scope.kind = .function := by rfl) (hx : env.kindOf f = some .globalImplicit := by rfl)
    (hd : (f == ("__debug__" : Str)) = false := by decide) (hn : f ≠ "__name__" := by decide) (he : backTo pos (starEach [e] env) = (false, eval e env) :: backTo pos (starEach [] env) := by rfl)
    (hplain : (backTo pos (starEach [e] env)).any (·.1) = false := by rfl) (he2 : starEach [e] env = (false, eval e env) :: starEach [] env := by rfl) :
    WE B A env (.Call (.Name f np) [e] [⟨some kw, kv, kp⟩] pos) st Q := fun K s R => by
  refine wpAny_Call_Name_kw (Name_function_global hk hx (loadGlobal_builtin (env := env) (hg ▸ BO.g.keeps R.baseAt) hm (hbn ▸ BO.b.keeps R.baseAt) ((BO.builtins f hn).trans hb) ?_) hd)
  refine callWith_kw ?_ he hplain rfl rfl
  refine args_cons (wbind (h K s R) ?_) he2
  rintro v s₁ ⟨a, st₁, ra, R₁, g₁, h₁⟩
  refine args_nil ?_
  show wpAny _ _ (evalAll [do let v ← eval kv env; standAt pos; pure v]) _ _ _
  refine wpAny_evalAll_cons (wpAny_bind (wbind (h₁ K s₁ R₁) ?_))
  rintro u s₂ ⟨b, st₂, rb, R₂, g₂, h₂⟩
  refine wpAny_bind (wpAny_standAt (wpAny_pure ?_))
  refine wpAny_evalAll_nil ?_
  exact wbind (h₂ v u K s₂ R₂ (ra.grow g₂) rb) fun x s₃ p => p.mono (g₁.trans g₂)
end
end Mine
end

/-! ## M10 -/
section
set_option maxRecDepth 100000
namespace Mine
open PySem PySem.W PySem.Calls PyProof.Rows

def pyV : V → PyData
  | .int i => .int i
  | .tup is => .tuple (is.map .int)
  | .bool b => .bool b
  | _ => .none
def flat : V → Bool
  | .ref _ => false
  | _ => true
theorem reads_ints {h : Heap} {vs : List Value} {is : List Int} (hi : IntsAre vs is) : ReadsAll h vs (is.map .int) [] := by
  induction hi with
  | nil => exact .nil
  | cons n t _ ih => exact readsAll_cons_val (.int n t) ih
theorem reads_flat {h : Heap} {v : Value} : ∀ {x : V}, VRep h v x → flat x = true → Reads h v (pyV x) []
  | .none, e, _ => by obtain rfl : v = .none := e; exact .none
  | .bool b, e, _ => by obtain rfl : v = .bool b := e; exact .bool b
  | .int i, ⟨t, e⟩, _ => by subst e; exact .int i t
  | .tup is, ⟨a, vs, n, e1, e2, e3⟩, _ => by subst e1; exact reads_tuple_at e2 rfl rfl (by simpa using reads_ints e3)
  | .ref _, _, hf => by simp [flat] at hf
theorem reads_flats {h : Heap} {vs : List Value} {xs : List V} (r : VReps h vs xs) : (∀ x ∈ xs, flat x = true) → ReadsAll h vs (xs.map pyV) [] := by
  induction r with
  | nil => intro _; exact .nil
  | cons a r ih => intro hf; exact readsAll_cons_val (reads_flat a (hf _ (.head _))) (ih fun x hx => hf x (.tail _ hx))

theorem lay_ints : ∀ is : List Int, PyData.canLayAll0 (is.map .int) = true ∧ PyData.depthAll (is.map .int) = 0
  | [] => ⟨rfl, rfl⟩
  | i :: is => by simp [PyData.canLayAll0, PyData.canLay0, PyData.depthAll, PyData.depth, lay_ints is]
theorem lay_flat : ∀ x : V, PyData.canLay0 (pyV x) = true ∧ PyData.depth (pyV x) ≤ 1
  | .none => by simp [pyV, PyData.canLay0, PyData.depth]
  | .bool b => by simp [pyV, PyData.canLay0, PyData.depth]
  | .int i => by simp [pyV, PyData.canLay0, PyData.depth]
  | .tup is => by simp [pyV, PyData.canLay0, PyData.depth, lay_ints is]
  | .ref a => by simp [pyV, PyData.canLay0, PyData.depth]
theorem lay_flats : ∀ xs : List V, PyData.canLayAll0 (xs.map pyV) = true ∧ PyData.depthAll (xs.map pyV) ≤ 1
  | [] => ⟨rfl, by simp [PyData.depthAll]⟩
  | x :: xs => by
    have h1 := lay_flat x
    have h2 := lay_flats xs
    simp only [List.map_cons, PyData.canLayAll0, PyData.depthAll, h1.1, h2.1, Bool.and_self, true_and]
    omega
theorem shaped_tup (is : List Int) : SeqAt.shaped (.tuple (is.map .int)) = true := by
  simp [SeqAt.shaped, PyData.canLay0, PyData.depth, lay_ints is]
theorem shaped_flats (xs : List V) : SeqAt.shaped (.list (xs.map pyV)) = true := by
  have h := lay_flats xs
  simp only [SeqAt.shaped, PyData.canLay0, PyData.depth, h.1, Bool.true_and]
  exact decide_eq_true (by omega)
theorem eqv_ints : ∀ is js : List Int, PyData.eqvAll (is.map .int) (js.map .int) = decide (is = js)
  | [], [] => by simp [PyData.eqvAll]
  | [], _ :: _ => by simp [PyData.eqvAll]
  | _ :: _, [] => by simp [PyData.eqvAll]
  | i :: is, j :: js => by
    simp only [List.map_cons, PyData.eqvAll, PyData.eqv, eqv_ints is js]
    by_cases h : i = j <;> simp [h]
theorem eqv_rows : ∀ rs qs : List (List Int), PyData.eqvAll (rs.map fun r => .list (r.map .int)) (qs.map fun r => .list (r.map .int)) = decide (rs = qs)
  | [], [] => by simp [PyData.eqvAll]
  | [], _ :: _ => by simp [PyData.eqvAll]
  | _ :: _, [] => by simp [PyData.eqvAll]
  | i :: is, j :: js => by
    simp only [List.map_cons, PyData.eqvAll, PyData.eqv, eqv_ints, eqv_rows is js]
    by_cases h : i = j <;> simp [h]
theorem lay_rows : ∀ rs : List (List Int), PyData.canLayAll0 (rs.map fun r => .list (r.map .int)) = true ∧ PyData.depthAll (rs.map fun r => .list (r.map .int)) ≤ 1
  | [] => ⟨rfl, by simp [PyData.depthAll]⟩
  | r :: rs => by
    have h1 := lay_ints r
    have h2 := lay_rows rs
    simp only [List.map_cons, PyData.canLayAll0, PyData.canLay0, PyData.depthAll, PyData.depth, h1.1, h1.2, h2.1, Bool.and_self, true_and]
    omega

section
variable {B : Bs} {A : Around} {env : Env} {st : St} {L : Addr} {is js : List Int} {k : Nat} {Q : V → St → Prop}
theorem lt_tt (hA : A.units < cLine) (hsz : is.length = js.length) (h : Q (.bool (lexlt is js)) st) : W2 B A L VRep (compareOp .Lt) (.tup is) (.tup js) st Q := fun v w K s R ⟨a, vs, n, e1, e2, e3⟩ ⟨b, us, n', e1', e2', e3'⟩ => by
  subst e1 e1'
  refine wpAny_richCompare_same_room (op := .Lt) ⟨_, e2, rfl⟩ ⟨_, e2', rfl⟩ F.slot_tuple_lt (wpAny_call_entry F.slot_tuple_lt ⟨_, e2, rfl⟩ F.entry_tuple_lt (wbind (tuple_lt_in (Q := fun v s' => v = .bool (lexlt is js) ∧ s' = s) e3 e3' hsz e2 e2' ⟨rfl, rfl⟩) ?_) (F.args_tuple_lt_2 _ _)) hA
  rintro fin s' ⟨v, e, hv, rfl, rfl⟩
  exact ⟨_, e, hv, Post.here (b := V.bool (lexlt is js)) R rfl h⟩
theorem gt_tt (hA : A.units < cLine) (hsz : is.length = js.length) (h : Q (.bool (lexlt js is)) st) : W2 B A L VRep (compareOp .Gt) (.tup is) (.tup js) st Q := fun v w K s R ⟨a, vs, n, e1, e2, e3⟩ ⟨b, us, n', e1', e2', e3'⟩ => by
  subst e1 e1'
  refine wpAny_richCompare_same_room (op := .Gt) ⟨_, e2, rfl⟩ ⟨_, e2', rfl⟩ F.slot_tuple_gt (wpAny_call_entry F.slot_tuple_gt ⟨_, e2, rfl⟩ F.entry_tuple_gt (wbind (tuple_gt_in (Q := fun v s' => v = .bool (lexlt js is) ∧ s' = s) e3 e3' hsz e2 e2' ⟨rfl, rfl⟩) ?_) (F.args_tuple_gt_2 _ _)) hA
  rintro fin s' ⟨v, e, hv, rfl, rfl⟩
  exact ⟨_, e, hv, Post.here (b := V.bool (lexlt js is)) R rfl h⟩
theorem eq_tt (hA : A.units + 64 < cLine) (h : Q (.bool (decide (is = js))) st) : W2 B A L VRep (compareOp .Eq) (.tup is) (.tup js) st Q := fun v w K s R e e' => by
  refine eq_dataH (reads_flat e rfl) (reads_flat e' rfl) (shaped_tup is) (shaped_tup js) hA ?_
  have : PyData.eqv (pyV (.tup is)) (pyV (.tup js)) = decide (is = js) := by simp only [pyV, PyData.eqv]; exact eqv_ints is js
  rw [this]
  exact Post.here (b := V.bool (decide (is = js))) R rfl h
theorem eq_nil {l l' : Addr} {xs : List V} (hA : A.units + 64 < cLine) (hl : st.σ l = some (.list xs)) (hl' : st.σ l' = some (.list [])) (hf : ∀ x ∈ xs, flat x = true) (h : Q (.bool xs.isEmpty) st) : W2 B A L VRep (compareOp .Eq) (.ref l) (.ref l') st Q := fun v w K s R e e' => by
  obtain rfl : v = .ref l := e
  obtain rfl : w = .ref l' := e'
  obtain ⟨vs, n, hL, hv, hz⟩ := R.ob l _ hl
  obtain ⟨vs', n', hL', hv', hz'⟩ := R.ob l' _ hl'
  refine eq_dataH (reads_list_at hL rfl rfl (by simpa using reads_flats hv hf)) (reads_list_at hL' rfl rfl (by simpa using reads_flats hv' (by simp))) (shaped_flats xs) (shaped_flats []) hA ?_
  have : PyData.eqv (.list (xs.map pyV)) (.list (([] : List V).map pyV)) = xs.isEmpty := by cases xs <;> simp [PyData.eqv, PyData.eqvAll]
  rw [this]
  exact Post.here (b := V.bool xs.isEmpty) R rfl h
theorem ne_nil {l l' : Addr} {xs : List V} (hA : A.units + 64 < cLine) (hl : st.σ l = some (.list xs)) (hl' : st.σ l' = some (.list [])) (hf : ∀ x ∈ xs, flat x = true) (h : Q (.bool (!xs.isEmpty)) st) : W2 B A L VRep (compareOp .NotEq) (.ref l) (.ref l') st Q := fun v w K s R e e' => by
  obtain rfl : v = .ref l := e
  obtain rfl : w = .ref l' := e'
  obtain ⟨vs, n, hL, hv, hz⟩ := R.ob l _ hl
  obtain ⟨vs', n', hL', hv', hz'⟩ := R.ob l' _ hl'
  refine ne_dataH (reads_list_at hL rfl rfl (by simpa using reads_flats hv hf)) (reads_list_at hL' rfl rfl (by simpa using reads_flats hv' (by simp))) (shaped_flats xs) (shaped_flats []) hA ?_
  have : PyData.eqv (.list (xs.map pyV)) (.list (([] : List V).map pyV)) = xs.isEmpty := by cases xs <;> simp [PyData.eqv, PyData.eqvAll]
  rw [this]
  exact Post.here (b := V.bool (!xs.isEmpty)) R rfl h
theorem ne_ints {l l' : Addr} (hA : A.units + 64 < cLine) (hl : st.σ l = some (.list (is.map V.int))) (hl' : st.σ l' = some (.list (js.map V.int))) (h : Q (.bool (!decide (is = js))) st) : W2 B A L VRep (compareOp .NotEq) (.ref l) (.ref l') st Q := fun v w K s R e e' => by
  obtain rfl : v = .ref l := e
  obtain rfl : w = .ref l' := e'
  obtain ⟨vs, n, hL, hv, hz⟩ := R.ob l _ hl
  obtain ⟨vs', n', hL', hv', hz'⟩ := R.ob l' _ hl'
  exact ne_intsK hL.isList hv.ints hL'.isList hv'.ints hA (Post.here (b := V.bool (!decide (is = js))) R rfl h)
noncomputable def RowsAt (σ : Store) : List Addr → List (List Int) → Prop
  | [], [] => True
  | a :: as, r :: rs => σ a = some (.list (r.map V.int)) ∧ RowsAt σ as rs
  | _, _ => False
theorem reads_rows {K : Addr → Obj → Prop} {s : Shared} (R : Rep B K L st s) : ∀ {as : List Addr} {rs : List (List Int)} {vs : List Value}, RowsAt st.σ as rs → VReps s.heap vs (as.map V.ref) → ∃ bs, ReadsAll s.heap vs (rs.map fun r => .list (r.map .int)) bs
  | [], [], _, _, hv => by cases hv; exact ⟨[], .nil⟩
  | [], _ :: _, _, h, _ => h.elim
  | _ :: _, [], _, h, _ => h.elim
  | a :: as, r :: rs, _, ⟨h1, h2⟩, hv => by
    cases hv with
    | cons e hv =>
      obtain rfl := (show _ = _ from e)
      obtain ⟨vs, n, hL, hv', hz⟩ := R.ob a _ h1
      obtain ⟨bs, hbs⟩ := reads_rows R h2 hv
      exact ⟨_, .cons (reads_list_at hL rfl rfl (by simpa using reads_ints hv'.ints)) hbs⟩
theorem ne_rows {l l' : Addr} {as bs : List Addr} {rs qs : List (List Int)} (hA : A.units + 64 < cLine) (hl : st.σ l = some (.list (as.map V.ref))) (hl' : st.σ l' = some (.list (bs.map V.ref))) (hr : RowsAt st.σ as rs) (hq : RowsAt st.σ bs qs)
    (h : Q (.bool (!decide (rs = qs))) st) : W2 B A L VRep (compareOp .NotEq) (.ref l) (.ref l') st Q := fun v w K s R e e' => by
  obtain rfl : v = .ref l := e
  obtain rfl : w = .ref l' := e'
  obtain ⟨vs, n, hL, hv, hz⟩ := R.ob l _ hl
  obtain ⟨vs', n', hL', hv', hz'⟩ := R.ob l' _ hl'
  obtain ⟨c1, r1⟩ := reads_rows R hr hv
  obtain ⟨c2, r2⟩ := reads_rows R hq hv'
  have sh : ∀ rs : List (List Int), SeqAt.shaped (.list (rs.map fun r => .list (r.map .int))) = true := fun rs => by
    have h := lay_rows rs
    simp only [SeqAt.shaped, PyData.canLay0, PyData.depth, h.1, Bool.true_and]
    exact decide_eq_true (by omega)
  refine ne_dataH (reads_list_at hL rfl rfl (by simpa using r1)) (reads_list_at hL' rfl rfl (by simpa using r2)) (sh rs) (sh qs) hA ?_
  have : PyData.eqv (.list (rs.map fun r => .list (r.map .int))) (.list (qs.map fun r => .list (r.map .int))) = decide (rs = qs) := by simp only [PyData.eqv]; exact eqv_rows rs qs
  rw [this]
  exact Post.here (b := V.bool (!decide (rs = qs))) R rfl h

theorem abs_i {i : Int} (h : Q (.int (if i < 0 then -i else i)) st) : WL B A L VRep (fun vs => call (.builtin "abs") vs) [.int i] st Q := fun vs K s R e => by
  cases e with
  | cons e1 e2 =>
    cases e2
    obtain ⟨t, rfl⟩ := e1
    exact call_abs_int fun u tk => Post.int R h
theorem neg_i {i : Int} (h : Q (.int (-i)) st) : W1 B A L VRep (unaryOp .USub) (.int i) st Q := fun v K s R ⟨t, e⟩ => by
  subst e
  exact neg_int (Post.int R h)
theorem E_un {op : UnaryOp} {x : Expr} {pos : Pos} (h : WE B A env x st fun a st₁ => W1 B A env.locals VRep (unaryOp op) a st₁ Q) : WE B A env (.UnaryOp op x pos) st Q := fun K s R =>
  wpAny_UnaryOp (wbind (h K s R) fun v s₁ ⟨a, st₁, ra, R₁, g₁, h₁⟩ => wbind (h₁ v K s₁ R₁ ra) fun x s₃ p => p.mono g₁)
theorem not_b {b : Bool} (h : Q (.bool (!b)) st) : W1 B A L VRep (unaryOp .Not) (.bool b) st Q := fun v K s R e => by
  obtain rfl : v = .bool b := e
  exact not_of (wpAny_truthy_bool (Post.here (b := V.bool (!b)) R rfl h))
end
end Mine
end

/-! ## M11 -/
section
set_option maxRecDepth 100000
namespace Mine
open PySem PySem.W PySem.Calls PySem.SeqAt PyProof.Rows

theorem filterMap_some {α β : Type} {f : α → Option β} {g : α → β} : ∀ {l : List α}, (∀ k ∈ l, f k = some (g k)) → l.filterMap f = l.map g
  | [], _ => rfl
  | x :: l, h => by rw [List.filterMap_cons, h x (.head _)]; simp [filterMap_some fun k hk => h k (.tail _ hk)]
section
variable {prog : Program} {w : World} {A : Around} {E : Value → Shared → Prop} {s : Shared}
theorem slicePart_none {Q : Option Int → Shared → Prop} (h : Q none s) : wpAny (model prog w) A (Builtin.Slice.slicePartIndex .none) Q E s := by
  unfold Builtin.Slice.slicePartIndex
  rw [if_pos (by rfl)]
  exact wpAny_pure h
theorem slicePart_int {i : Int} {t : Tok} {Q : Option Int → Shared → Prop} (h : Q (some i) s) : wpAny (model prog w) A (Builtin.Slice.slicePartIndex (.int i t)) Q E s := by
  unfold Builtin.Slice.slicePartIndex
  rw [if_neg (show ¬ ((Value.int i t == Value.none) = true) from Bool.false_ne_true)]
  refine wpAny_bind (wpAny_specialOf (T := "int") (typeIs_int s i t) int_index ?_)
  exact wpAny_bind (wpAny_of_eq (a := i) rfl (wpAny_pure h))
theorem getItem_tup_tail {a sl : Addr} {v : Value} {vs : List Value} {n : Nat} {t : Tok} {Q : Value → Shared → Prop} (ha : IsT s.heap a (v :: vs).toArray n) (hs : s.heap.IsSliceOf sl (.int 1 t) .none .none) (hz : vs.length ≤ 1000)
    (h : Q (.ref s.heap.objs.size) { s with heap := s.heap.push { cls := .type "tuple", data := .seq vs.toArray } }) : wpAny (model prog w) A (getItem (.ref a) (.ref sl)) Q E s := by
  obtain ⟨os, hos, hcs, hds⟩ := id hs
  have hTs : s.TypeIs (.ref sl) "slice" := ⟨os, hos, hcs⟩
  have hT : s.TypeIs (.ref a) "tuple" := ⟨_, ha, rfl⟩
  unfold getItem
  try with_reducible refine wpAny_holding ?_
  first | refine wpAny_bind (wpAny_pure ?_) | skip
  refine wpAny_bind (wpAny_sequenceKey hT (by decide) ?_)
  refine wpAny_bind (wpAny_callSpecial?_slot (name := Str.ofString "__getitem__") hT slot_tuple_getitem
    (wpAny_call_entry slot_tuple_getitem hT F.entry_tuple_getitem ?_ (F.args_tuple_getitem_2 _ _)))
  show wpAny _ _ (Builtin.Tuple.tupleItemsOf (.ref a) >>= _) _ _ s
  unfold Builtin.Tuple.tupleItemsOf
  refine wpAny_bind (wpAny_bind (wpAny_seqItems ha rfl (wpAny_pure ?_)))
  refine wpAny_bind (wpAny_typeOf hTs ?_)
  rw [if_pos (by rfl)]
  refine wpAny_bind ?_
  unfold Builtin.Slice.sliceApplied Builtin.Slice.sliceFields
  refine wpAny_bind (wpAny_bind (wpAny_field hos hds (x := .int 1 t) rfl (wpAny_bind (wpAny_field hos hds (x := .none) rfl (wpAny_bind (wpAny_field hos hds (x := .none) rfl (wpAny_pure ?_)))))))
  dsimp only
  refine wpAny_bind (slicePart_none ?_)
  rw [if_neg (by decide)]
  refine wpAny_bind (slicePart_int ?_)
  refine wpAny_bind (slicePart_none ?_)
  refine wpAny_bind (wpAny_pure (wpAny_pure ?_))
  dsimp only
  have e1 : Builtin.Slice.sliceAdjust (some 1) none ((none : Option Int).getD 1) ((v :: vs).toArray.size : Int) = (1, (vs.length : Int) + 1) := by
    simp [Builtin.Slice.sliceAdjust]; omega
  rw [e1]
  dsimp only
  rw [if_neg (by simp)]
  have e2 : Builtin.Slice.slicePlaces 1 ((vs.length : Int) + 1) ((none : Option Int).getD 1) = vs.length := by
    simp only [Builtin.Slice.slicePlaces, Option.getD_none]
    by_cases h0 : vs.length = 0
    · simp [h0]
    · rw [if_pos (by decide), if_pos (by omega)]
      simp
  rw [e2]
  have e3 : ((List.range vs.length).filterMap fun (k : Nat) => (v :: vs).toArray[((1 : Int) + (k : Int) * (none : Option Int).getD 1).toNat]?) = vs := by
    have : ∀ k ∈ List.range vs.length, ((v :: vs).toArray[((1 : Int) + (k : Int) * (none : Option Int).getD 1).toNat]?) = some (vs.getD k .none) := fun k hk => by
      have hk' : k < vs.length := by simpa using hk
      have : ((1 : Int) + (k : Int) * (none : Option Int).getD 1).toNat = k + 1 := by simp; omega
      rw [this]
      simp [hk']
    rw [filterMap_some this, getD_range]
  rw [e3]
  unfold Builtin.Tuple.tupleExact
  refine wpAny_bind (wpAny_newObj_type (wpAny_pure ⟨_, rfl, wpAny_pure h⟩) ?_)
  show vs.toArray.size ≤ sizeLine
  exact line_ok (by simp; omega)
end

section
variable {B : Bs} {A : Around} {env : Env} {st : St} {L : Addr} {Q : V → St → Prop}
/-- v[1:] of a tuple -/
theorem E_tail {value : Expr} {k : Nat} {p0 p pos : Pos} (h : WE B A env value st fun v st₁ => ∃ i is, v = .tup (i :: is) ∧ is.length ≤ 1000 ∧ Q (.tup is) st₁) :
    WE B A env (.Subscript value (.Slice (some (.Constant (.int 1) k p0)) none none p) pos) st Q := fun K s R => by
  refine Subscript_ (wbind (h K s R) ?_)
  rintro v s₁ ⟨_, st₁, ra, R₁, g₁, i, is, rfl, hz, hQ⟩
  obtain ⟨a, vs, n, rfl, ha, hi⟩ := ra
  cases hi with
  | @cons _ t vs _ hi =>
  have hlen := hi.length
  refine wpAny_Slice (wpAny_evalPart_some (wpAny_Constant_int (wpAny_evalPart_none (wpAny_evalPart_none ?_))))
  generalize hH : s₁.heap.push { cls := .type "slice", data := .fields #[.int 1 s₁.toks, .none, .none] } = H
  have hE : Ext s₁.heap H := hH ▸ Ext.push _ _
  have hsl : H.IsSliceOf s₁.heap.objs.size (.int 1 s₁.toks) .none .none := hH ▸ Heap.IsSliceOf.new _ _ _ _
  refine tail_any (T := "tuple") ⟨_, hE _ _ ha, rfl⟩ slot_tuple_getitem.lookup (getItem_tup_tail (s := { s₁ with heap := H, toks := s₁.toks + 1 }) (hE _ _ ha) hsl (by omega) ?_) rfl
  have hE2 : Ext H (H.push { cls := .type "tuple", data := .seq vs.toArray }) := Ext.push _ _
  exact ⟨V.tup is, st₁, ⟨_, _, 0, rfl, IsT.new _ _, hi⟩, R₁.ext (tk := s₁.toks + 1) (hE.trans hE2), g₁.trans (hE.trans hE2).grow, hQ⟩
/-- l[:n] of a list of ints that is not the call's own -/
theorem E_upto {x : Str} {xp p0 p pos : Pos} {k : Nat} {l : Addr} {y : Int} {us : List Value} {ns : List Int} (hx : st.m.lookup x = some (.ref l)) (hl : B.hb.IsList l us.toArray) (hi : IntsAre us ns) (hz : ns.length ≤ 1048576) (hy : 0 ≤ y)
    (h : ∀ a, st.σ a = none → Q (.ref a) ⟨st.m, upd st.σ a (.list ((ns.take y.toNat).map V.int))⟩)
    (hk : env.scope.kind = .function := by rfl) (hlo : env.kindOf x = some .local := by rfl) (hd : (x == ("__debug__" : Str)) = false := by decide) :
    WE B A env (.Subscript (.Name x xp) (.Slice none (some (.Constant (.int y) k p0)) none p) pos) st Q := fun K s R => by
  have hlen := hi.length
  refine wpAny_Subscript_list_slice (wbind (E_local (Q := fun v st' => v = .ref l ∧ st' = st) hx ⟨rfl, rfl⟩ hk hlo hd K s R) ?_)
  rintro v s₁ ⟨_, _, ra, R₁, g₁, rfl, rfl⟩
  obtain rfl : v = .ref l := ra
  refine wpAny_evalPart_none (wpAny_evalPart_some (wpAny_Constant_int ?_))
  refine ⟨l, us.toArray, none, some y, rfl, hl.at fun o e => R₁.baseAt _ _ e, line_ok (by simp; omega), .none, .int y _, ?_⟩
  have hE : Ext s₁.heap ((s₁.heap.push { cls := .type "slice", data := .fields #[.none, .int y s₁.toks, .none] }).push { cls := .type "list", data := .seq (slicePick us.toArray none (some y) none) }) := (Ext.push _ _).trans (Ext.push _ _)
  have hsz : (s₁.heap.push { cls := .type "slice", data := .fields #[.none, .int y s₁.toks, .none] }).objs.size = s₁.heap.objs.size + 1 := Heap.size_push ..
  have hfr : s₁.heap.get? (s₁.heap.objs.size + 1) = none := by
    cases e : s₁.heap.get? (s₁.heap.objs.size + 1) with
    | none => rfl
    | some o => exact absurd (Heap.lt_size e) (Nat.not_lt.mpr (Nat.le_succ _))
  have q : IsL ((s₁.heap.push { cls := .type "slice", data := .fields #[.none, .int y s₁.toks, .none] }).push { cls := .type "list", data := .seq (slicePick us.toArray none (some y) none) }) (s₁.heap.objs.size + 1) (slicePick us.toArray none (some y) none).toList.toArray 0 := by
    have := IsL.new (s₁.heap.push { cls := .type "slice", data := .fields #[.none, .int y s₁.toks, .none] }) (slicePick us.toArray none (some y) none)
    rw [hsz] at this
    simpa using this
  exact ⟨V.ref _, _, rfl, R₁.alloc (tk := s₁.toks + 1) (o := .list ((ns.take y.toNat).map V.int)) hE hfr ⟨_, 0, q, VReps.of_ints (slice_ints_uptoW hi hy), by simp; omega⟩, g₁.trans hE.grow, h _ (R₁.fresh hfr)⟩
theorem cat_ll {l l' : Addr} {xs ys : List V} (hl : st.σ l = some (.list xs)) (hl' : st.σ l' = some (.list ys)) (hz : xs.length + ys.length ≤ 1048576) (h : ∀ a, st.σ a = none → Q (.ref a) ⟨st.m, upd st.σ a (.list (xs ++ ys))⟩) :
    W2 B A L VRep (binaryOp .Add) (.ref l) (.ref l') st Q := fun v w K s R e e' => by
  obtain rfl : v = .ref l := e
  obtain rfl : w = .ref l' := e'
  obtain ⟨vs, n, hL, hv, hz1⟩ := R.ob l _ hl
  obtain ⟨vs', n', hL', hv', hz'⟩ := R.ob l' _ hl'
  have h1 := hv.length
  have h2 := hv'.length
  refine P.add_list hL hL' ?_ (line_ok (by simp; omega))
  have hE : Ext s.heap (s.heap.push { cls := .type "list", data := .seq (vs.toArray ++ vs'.toArray) }) := Ext.push _ _
  have q : IsL (s.heap.push { cls := .type "list", data := .seq (vs.toArray ++ vs'.toArray) }) s.heap.objs.size (vs ++ vs').toArray 0 := by
    have := IsL.new s.heap (vs.toArray ++ vs'.toArray)
    simpa using this
  exact ⟨V.ref _, _, rfl, R.alloc (tk := s.toks) (o := .list (xs ++ ys)) hE (size_none _) ⟨vs ++ vs', 0, q, (hv.append hv').grow hE.grow, by simpa using hz⟩, hE.grow, h _ (R.fresh (size_none _))⟩
theorem min_ii {i j : Int} (hh : A.handled = none) (h : Q (.int (min i j)) st) : WL B A L VRep (fun vs => call (.builtin "min") vs) [.int i, .int j] st Q := fun vs K s R e => by
  cases e with
  | cons e1 e2 =>
  cases e2 with
  | cons e2 e3 =>
  cases e3
  obtain ⟨t, rfl⟩ := e1
  obtain ⟨u, rfl⟩ := e2
  refine min_two_ints hh fun h' tk hk => ?_
  have R' := R.ext (tk := tk) (h' := h') hk
  have gk : Grow s.heap h' := Ext.grow hk
  by_cases c : j < i
  · rw [if_pos c]
    have : min i j = j := by omega
    rw [this] at h
    exact ⟨V.int j, st, ⟨_, rfl⟩, R', gk, h⟩
  · rw [if_neg c]
    have : min i j = i := by omega
    rw [this] at h
    exact ⟨V.int i, st, ⟨_, rfl⟩, R', gk, h⟩
theorem notIn_i {l : Addr} {i : Int} {ns : List Int} (hA : A.units + 65 < cLine) (hl : st.σ l = some (.list (ns.map V.int))) (h : Q (.bool (!decide (i ∈ ns))) st) : W2 B A L VRep (compareOp .NotIn) (.int i) (.ref l) st Q := fun v w K s R e e' => by
  obtain ⟨t, rfl⟩ := e
  obtain rfl : w = .ref l := e'
  obtain ⟨vs, n, hL, hv, hz1⟩ := R.ob l _ hl
  refine notIn_list_reads (xs := ns.map .int) (d := .int i) (reads_list_at hL rfl rfl (by simpa using reads_ints hv.ints)) (.int i t) (lay_ints ns).1 rfl ?_ ?_
  · show A.units + 1 + min _ 0 < _
    rw [Nat.min_zero]
    omega
  · have e : ∀ ns : List Int, ((ns.map PyData.int).any fun y => PyData.eqv y (.int i)) = decide (i ∈ ns) := fun ns => by
      induction ns with
      | nil => simp
      | cons n ns ih =>
        rw [List.map_cons, List.any_cons, ih]
        have : PyData.eqv (.int n) (.int i) = decide (i = n) := by
          simp only [PyData.eqv]
          by_cases q : n = i
          · subst q; simp
          · have q' : i ≠ n := fun z => q z.symm
            simp [q, q']
        rw [this]
        by_cases q : i = n <;> simp [q]
    rw [e ns]
    exact Post.here (b := V.bool (!decide (i ∈ ns))) R rfl h
theorem sum_l {l : Addr} {ns : List Int} (hh : A.handled = none) (hl : st.σ l = some (.list (ns.map V.int))) (hs : ∀ n ∈ ns, 0 ≤ n ∧ n ≤ 3) (hz : ns.length ≤ 1000) (h : Q (.int ns.sum) st) : WL B A L VRep (fun vs => call (.builtin "sum") vs) [.ref l] st Q := fun vs K s R e => by
  cases e with
  | cons e1 e2 =>
  cases e2
  obtain rfl := (show _ = _ from e1)
  obtain ⟨vs, n, hL, hv, hz1⟩ := R.ob l _ hl
  have hi := hv.ints
  have hlen := hi.length
  refine call_sum_walk (wpAny_pyIter_list hL.isList ?_)
  have hne : l ≠ s.heap.objs.size := fun z => by have := Heap.lt_size hL; rw [z] at this; exact Nat.lt_irrefl _ this
  have hE : Ext s.heap (s.heap.push { cls := .type "list_iterator", data := .fields #[.ref l, .int 0 0] }) := Ext.push _ _
  have bound : ∀ j, j ≤ ns.length → 0 ≤ (ns.take j).sum ∧ (ns.take j).sum ≤ 3 * j := fun j => by
    induction j with
    | zero => intro _; simp
    | succ j ih =>
      intro hj
      have := ih (by omega)
      rw [List.take_add_one, List.sum_append]
      have hm := hs ns[j] (List.getElem_mem (by omega))
      simp only [List.getElem?_eq_getElem (show j < ns.length by omega), Option.toList_some, List.sum_cons, List.sum_nil]
      omega
  refine ⟨_, _, _, _, _, _, fun i => ns.getD i 0, rfl, Walks.list (A := A.in1) hh _ l hne vs.toArray, ⟨⟨_, Heap.get?_push_size _ rfl, rfl, rfl⟩, ⟨_, hE _ _ hL, rfl, _, rfl⟩⟩, ?_, ?_, ?_, ?_⟩
  · intro b hb
    rw [Heap.size_push]
    simp only [List.mem_cons, List.not_mem_nil, or_false] at hb
    rcases hb with rfl | rfl
    · exact Nat.lt_succ_self _
    · exact Nat.lt_succ_of_lt (Heap.lt_size hL)
  · intro i v hv'
    have hv'' : vs[i]? = some v := by simpa using hv'
    have hil : i < ns.length := by
      rw [List.getElem?_eq_some_iff] at hv''
      obtain ⟨h1, _⟩ := hv''
      omega
    obtain ⟨t, ht⟩ := ints_get hi (i := i) (n := ns[i]) (by simp [hil])
    rw [ht] at hv''
    cases hv''
    exact ⟨t, by simp [hil]⟩
  · intro j hj
    have hj' : j < ns.length := by simp at hj; omega
    have h1 := hs ns[j] (List.getElem_mem hj')
    have h2 := bound (j + 1) (by omega)
    rw [preSum_getD]
    refine ⟨?_, ?_⟩
    · have e : ns.getD j 0 = ns[j] := by simp [hj']
      show InLong (ns.getD j 0)
      rw [e]
      unfold InLong
      omega
    · unfold InLong
      omega
  · intro h' tk t' hk
    have hK : ∀ o, ¬ K s.heap.objs.size o := fun o q => by have := R.keep _ o q; rw [size_none] at this; cases this
    have R1 := R.ext (tk := s.toks) hE
    obtain ⟨R2, g2⟩ := R1.other (a := s.heap.objs.size) (tk := tk) (h' := h') (Heap.get?_push_size _ rfl) rfl hK fun b o hb q => hk b o (by simpa using hb) q
    rw [preSum_getD, List.take_of_length_le (by simp; omega)]
    exact ⟨V.int ns.sum, st, ⟨_, rfl⟩, R2, hE.grow.trans g2, h⟩
end
end Mine
end

/-! ## M12 -/
section
set_option maxRecDepth 100000
namespace Mine
open PySem PySem.W PySem.Calls PySem.SeqAt PyProof.Rows

section
variable {prog : Program} {w : World} {A : Around} {E : Value → Shared → Prop} {s : Shared}
theorem fitsLong_of {i : Int} (h1 : -(2 ^ 62) ≤ i) (h2 : i ≤ 2 ^ 62) : Builtin.Range.rangeFitsLong i = true := by
  unfold Builtin.Range.rangeFitsLong
  simp only [Bool.and_eq_true, decide_eq_true_eq]
  omega
theorem range_small {n : Nat} (h : n ≤ 1000000) : Builtin.Range.small 0 n 1 = true := by
  unfold Builtin.Range.small
  rw [rangeSize_nat, fitsLong_of (by omega) (by omega), fitsLong_of (by omega) (by omega), fitsLong_of (by omega) (by omega), fitsLong_of (by omega) (by omega), if_pos (by decide), fitsLong_of (by omega) (by omega)]
  simp
theorem rangeFields_at {r : Addr} {a b c : Int} {t u v : Tok} {Q : Int × Int × Int → Shared → Prop} (hr : IsRange s.heap r a b c t u v) (h : Q (a, b, c) s) : wpAny (model prog w) A (Builtin.Range.rangeFields (.ref r)) Q E s := by
  unfold Builtin.Range.rangeFields
  refine wpAny_bind (wpAny_field hr rfl (x := .int a t) rfl ?_)
  refine wpAny_bind (m := asInt? (.int a t)) (wpAny_pure ?_)
  refine wpAny_bind (wpAny_field hr rfl (x := .int b u) rfl ?_)
  refine wpAny_bind (m := asInt? (.int b u)) (wpAny_pure ?_)
  refine wpAny_bind (wpAny_field hr rfl (x := .int c v) rfl ?_)
  refine wpAny_bind (m := asInt? (.int c v)) (wpAny_pure ?_)
  exact wpAny_pure h
theorem call_range_reversed {r : Addr} {n : Nat} {t u v : Tok} {Q : Value → Shared → Prop} (hr : IsRange s.heap r 0 n 1 t u v) (hn : n ≤ 1000000)
    (h : ∀ h', Ext s.heap h' → IsRangeIter h' s.heap.objs.size ((n : Int) - 1) n (-1) → Q (.ref s.heap.objs.size) { s with heap := h' }) : wpAny (model prog w) A (call (.builtin "range.__reversed__") [.ref r]) Q E s := by
  have hT : s.TypeIs (.ref r) "range" := ⟨_, hr, rfl⟩
  refine wpAny_call_entry F.slot_range_reversed hT F.entry_range_reversed ?_ (F.args_range_reversed_1 _)
  unfold Builtin.«range.__reversed__»
  refine wpAny_bind (wpAny_of_eq (a := Value.ref r) rfl ?_)
  refine wpAny_bind (rangeFields_at hr ?_)
  dsimp only
  have e : (Builtin.Range.rangeFitsLong 0 && Builtin.Range.rangeFitsLong (n : Int) && Builtin.Range.rangeFitsLong 1 && Builtin.Range.rangeFitsLong (-1) && Builtin.Range.rangeFitsLong (0 - 1) && Builtin.Range.rangeFitsLong (Builtin.Range.rangeSize 0 n 1)) = true := by
    rw [rangeSize_nat, fitsLong_of (by omega) (by omega), fitsLong_of (by omega) (by omega), fitsLong_of (by omega) (by omega), fitsLong_of (by omega) (by omega), fitsLong_of (by omega) (by omega), fitsLong_of (by omega) (by omega)]
    rfl
  rw [e]
  simp only [Bool.not_true, Bool.false_eq_true, if_false, if_true]
  have e2 : (0 : Int) + (Builtin.Range.rangeSize 0 n 1 - 1) * 1 = (n : Int) - 1 := by rw [rangeSize_nat]; omega
  have e3 : Builtin.Range.rangeSize 0 n 1 = (n : Int) := by rw [rangeSize_nat]; omega
  rw [e2, e3]
  refine wpAny_bind (wpAny_newObj_type (wpAny_pure ⟨_, rfl, h _ (Ext.push _ _) (Heap.get?_push_size _ rfl)⟩))

theorem sub_ri_reversed : isSubtype (.type "range_iterator") (.type "reversed") = pure false := by rw [isSubtype_type]; kernel_rfl
theorem code_reversed_range {r : Addr} {n : Nat} {t u v : Tok} {Q₁ : Value → Shared → Prop} (hr : IsRange s.heap r 0 n 1 t u v) (hn : n ≤ 1000000)
    (h : ∀ h', Ext s.heap h' → IsRangeIter h' s.heap.objs.size ((n : Int) - 1) n (-1) → Q₁ (.ref s.heap.objs.size) { s with heap := h' }) :
    codeAny (model prog w) A (.call (.builtin "reversed.__new__") ⟨[.type "reversed", .ref r], []⟩) (wants Q₁ E) s := by
  have hT : s.TypeIs (.ref r) "range" := ⟨_, hr, rfl⟩
  refine codeAny_of_tree ?_
  show wpAny _ A.in1 (do checkBuiltinCall "reversed.__new__" ⟨[.type "reversed", .ref r], []⟩; again (.builtin "reversed.__new__" ⟨[.type "reversed", .ref r], []⟩)) _ _ s
  refine wpAny_bind (wpAny_of_eq (F.newCall_reversed_1 _) (wpAny_pure ⟨plainId_quiet F.plain_reversed_new _, codeAny_builtin F.entry_reversed_new ?_⟩))
  rw [Around.under_plainId F.plain_reversed_new _]
  unfold Builtin.«reversed.__new__»
  refine wpAny_bind (wpAny_of_eq (newClass_reversed _) ?_)
  try dsimp only
  refine wpAny_bind (wpAny_of_eq (a := ()) (by first | rfl | kernel_rfl) ?_)
  refine wpAny_bind (wpAny_of_eq (a := ()) (by first | rfl | kernel_rfl) ?_)
  try dsimp only
  refine wpAny_bind (wpAny_specialOf hT F.slot_range_reversed.lookup ?_)
  try dsimp only
  refine wpAny_bind (wpAny_of_eq (F.slot_range_reversed.bind _) ?_)
  try dsimp only
  first
  | rw [if_neg (show ¬ ((Value.builtin "range.__reversed__" == Value.none) = true) from Bool.false_ne_true)]
  | (show wpAny _ _ (if (Value.builtin "range.__reversed__" == Value.none) = true then _ else _) _ _ _; rw [if_neg (show ¬ ((Value.builtin "range.__reversed__" == Value.none) = true) from Bool.false_ne_true)])
  refine wpAny_bind (wpAny_rule ?_)
  refine wpAny_bind (m := runValue (.call (.builtin "range.__reversed__") ⟨[.ref r], []⟩)) (show wpAny _ _ (call (.builtin "range.__reversed__") [.ref r]) _ _ _ from call_range_reversed hr hn fun h' k1 k2 => ?_)
  first
  | exact wpAny_pure (h h' k1 k2)
  | exact wpAny_bind (wpAny_pure (wpAny_pure (h h' k1 k2)))
theorem call_reversed_range {r : Addr} {n : Nat} {t u v : Tok} {Q : Value → Shared → Prop} (hr : IsRange s.heap r 0 n 1 t u v) (hn : n ≤ 1000000)
    (h : ∀ h', Ext s.heap h' → IsRangeIter h' s.heap.objs.size ((n : Int) - 1) n (-1) → Q (.ref s.heap.objs.size) { s with heap := h' }) : wpAny (model prog w) A (call (.type "reversed") [.ref r]) Q E s := by
  refine callType_other (U := "range_iterator") (Q₁ := fun obj s₁ => obj = .ref s.heap.objs.size ∧ ∃ h', Ext s.heap h' ∧ IsRangeIter h' s.heap.objs.size ((n : Int) - 1) n (-1) ∧ s₁ = { s with heap := h' }) (by decide +kernel) F.create_reversed ⟨_, _, F.mro_reversed⟩ F.made_reversed sub_ri_reversed (F.typeCall_reversed_1 _) (code_reversed_range hr hn fun h' k1 k2 => ⟨rfl, h', k1, k2, rfl⟩) ?_
  rintro obj s₁ ⟨rfl, h', k1, k2, rfl⟩
  exact ⟨⟨_, k2, rfl⟩, h h' k1 k2⟩
end

section
variable {B : Bs} {A : Around} {env : Env} {st : St} {L : Addr}

theorem range_core {K : Addr → Obj → Prop} {target : Expr} {body : List Stmt} {s : Shared} {Q : AFlow → St → Prop} {I : Nat → St → Prop} {It : Addr} {a c : Int} {n : Nat} {h0 : Heap} (hh : A.handled = none) (hfr : ∀ o, ¬ K It o)
    (R₀ : Rep B K env.locals st s) (hI0 : I 0 st) (hit0 : IsRangeIter s.heap It a n c) (g0 : Grow h0 s.heap)
    (step : ∀ i st₂, i < n → I i st₂ → W1 B A env.locals URep (assign target env) (.int (a + i * c)) st₂ fun _ st₃ => WB B A env body st₃ (ForQ I i Q))
    (fin : ∀ st₂, I n st₂ → Q .next st₂) (ht : ∀ it v, letOwnedTupleGo target it v = pure ()) :
    codeAny (model B.prog B.w) A (.forLoop target (.ref It) body [] env) (fun r s' => match r with | .ok f => Post B K env.locals FRep Q h0 f s' | .error e => cameBackBy (model B.prog B.w) A env (fun _ _ => False) e s') s := by
  refine codeAny_forLoop (fun k s' => ∃ i st₂, k = n - i ∧ i ≤ n ∧ I i st₂ ∧ Rep B K env.locals st₂ s' ∧ Grow h0 s'.heap ∧ IsRangeIter s'.heap It (a + i * c) ((n : Int) - i) c) ?_ n
    ⟨0, st, rfl, Nat.zero_le _, hI0, R₀, g0, by simpa using hit0⟩ (ht _)
  rintro k s₂ ⟨i, st₂, rfl, hi, hI, R₂, g₂, hit⟩
  by_cases hlt : i < n
  · refine wpAny_pyNext_range_item hit (by omega) fun h₃ hit₃ hs₃ => ?_
    obtain ⟨R₃, g₃⟩ := R₂.other (tk := s₂.toks + 1) (h' := h₃) hit rfl hfr fun b o hb q => hs₃.extBut b o hb q
    dsimp only
    have R₃' := R₃.moreK (a := It) (ob := _) hit₃ rfl
    refine wpAny_noRaise (wbind (step i st₂ hlt hI _ _ _ R₃' ⟨_, rfl⟩) ?_)
    rintro _ s₄ ⟨_, st₄, _, R₄, g₄, h₄⟩
    refine wpAny_noRaise (wbind (h₄ _ s₄ R₄) ?_)
    rintro f s₅ ⟨f', st₅, e, R₅, g₅, h₅⟩
    have g := (((g₂.trans g₃).trans g₄).trans g₅)
    have R₆ : Rep B K env.locals st₅ s₅ := R₅.lessK (fun b o q => .inl q) R₀.base
    have hit₅ : IsRangeIter s₅.heap It (a + ((i + 1 : Nat) : Int) * c) ((n : Int) - ((i + 1 : Nat) : Int)) c := by
      have := R₅.keep It _ (.inr ⟨rfl, rfl⟩)
      have e1 : a + ((i + 1 : Nat) : Int) * c = a + (i : Int) * c + c := by push_cast; rw [Int.add_mul, Int.one_mul, Int.add_assoc]
      have e2 : (n : Int) - ((i + 1 : Nat) : Int) = (n : Int) - (i : Int) - 1 := by push_cast; omega
      rw [e1, e2]
      exact this
    cases f <;> cases f' <;> first | exact e.elim | skip
    · obtain ⟨st', hle', hI'⟩ := h₅
      exact ⟨_, by omega, i + 1, st', rfl, hlt, hI', R₆.weaken hle', g, hit₅⟩
    · exact ⟨.next, st₅, trivial, R₆, g, h₅⟩
    · obtain ⟨st', hle', hI'⟩ := h₅
      exact ⟨_, by omega, i + 1, st', rfl, hlt, hI', R₆.weaken hle', g, hit₅⟩
    · exact ⟨.ret _, st₅, e, R₆, g, h₅⟩
  · have hieq : i = n := by omega
    subst hieq
    refine wpAny_pyNext_range_end hh hit (by omega) fun h₃ he₃ => ?_
    obtain ⟨R₃, g₃⟩ := R₂.other (tk := s₂.toks) (h' := h₃) hit rfl hfr fun b o hb q => he₃ b o hb q
    dsimp only
    exact wpAny_execs_nil ⟨.next, st₂, trivial, R₃, g₂.trans g₃, fin st₂ hI⟩

/-- range(e), evaluated: its object -/
theorem range_obj {e : Expr} {np pos : Pos} {K : Addr → Obj → Prop} {s : Shared} {T : Value → Shared → Prop} (BO : BOk B) (hm : B.mg (Str.ofString "range") = none) (R : Rep B K env.locals st s) {Q : V → St → Prop} (h : WE B A env e st Q)
    (k : ∀ n st₁ s₁ r t u v, Q (.int n) st₁ → Rep B K env.locals st₁ s₁ → Grow s.heap s₁.heap → IsRange s₁.heap r 0 n 1 t u v → T (.ref r) s₁) (hint : ∀ v st₁, Q v st₁ → ∃ n, v = .int n)
    (hg : env.globals = mainGlobals) (hbn : env.builtins = builtinsNs) (hk : env.scope.kind = .function) (hx : env.kindOf (Str.ofString "range") = some .globalImplicit)
    (he : starEach [e] env = (false, eval e env) :: starEach [] env) : wpAny (model B.prog B.w) A (eval (.Call (.Name (Str.ofString "range") np) [e] [] pos) env) T (fun _ _ => False) s := by
  refine Call_ (Name_function_global hk hx (loadGlobal_builtin (env := env) (hg ▸ BO.g.keeps R.baseAt) hm (hbn ▸ BO.b.keeps R.baseAt) ((BO.builtins _ (by decide)).trans (show bootBuiltins (Str.ofString "range") = some (.type "range") by decide +kernel)) ?_) (by decide))
  refine callWith_type1 (args_cons (wbind (h K s R) ?_) he) he (by rfl)
  rintro v s₁ ⟨x, st₁, rv, R₁, g₁, q⟩
  obtain ⟨n, rfl⟩ := hint x st₁ q
  obtain ⟨t, rfl⟩ := rv
  refine args_nil (call_range_1 ?_)
  have hE : Ext s₁.heap (s₁.heap.push { cls := .type "range", data := .fields #[.int 0 s₁.toks, .int n t, .int 1 (s₁.toks + 1)] }) := Ext.push _ _
  exact k n st₁ _ _ _ _ _ q (R₁.ext (tk := s₁.toks + 1 + 1) hE) (g₁.trans hE.grow) (Heap.get?_push_size _ rfl)

theorem S_forRange {target e : Expr} {np cpos pos : Pos} {body : List Stmt} {Q : AFlow → St → Prop} (BO : BOk B) (hm : B.mg (Str.ofString "range") = none) (hh : A.handled = none)
    (h : WE B A env e st fun v st₁ => ∃ n : Nat, v = .int n ∧ n ≤ 1000000 ∧ ∃ (I : Nat → St → Prop) (st₀ : St), Le st₀ st₁ ∧ I 0 st₀ ∧
      (∀ i st₂, i < n → I i st₂ → W1 B A env.locals URep (assign target env) (.int i) st₂ fun _ st₃ => WB B A env body st₃ (ForQ I i Q)) ∧ (∀ st₂, I n st₂ → Q .next st₂))
    (hs : ∀ x, foldedSetIterable (.Call (.Name (Str.ofString "range") np) [e] [] cpos) env x = pure x := by intro _; rfl) (ht : ∀ it v, letOwnedTupleGo target it v = pure () := by intro _ _; rfl)
    (hg : env.globals = mainGlobals := by rfl) (hbn : env.builtins = builtinsNs := by rfl) (hk : env.scope.kind = .function := by rfl) (hx : env.kindOf (Str.ofString "range") = some .globalImplicit := by rfl)
    (he : starEach [e] env = (false, eval e env) :: starEach [] env := by rfl) :
    WS B A env (.For target (.Call (.Name (Str.ofString "range") np) [e] [] cpos) body [] pos) st Q := fun K s R => by
  refine wpAny_For (range_obj BO hm R h ?_ (fun v st₁ ⟨n, e, _⟩ => ⟨n, e⟩) hg hbn hk hx he) hs
  rintro n st₁ s₁ r t u v ⟨m, e, hz, I, st₀, hle, hI0, step, fin⟩ R₁ g₁ hr
  cases e
  have hfr : ∀ o, ¬ K s₁.heap.objs.size o := fun o q => by have := R₁.keep _ o q; rw [size_none] at this; cases this
  refine wpAny_pyIter_range hr (range_small hz) ?_
  rw [rangeSize_nat]
  have e1 : (((m : Int) - 0).toNat : Int) = m := by omega
  rw [e1]
  have hE : Ext s₁.heap (s₁.heap.push { cls := .type "range_iterator", data := .fields #[rawInt 0, rawInt (m : Int), rawInt 1] }) := Ext.push _ _
  refine range_core (I := I) (a := 0) (c := 1) hh hfr ((R₁.weaken hle).ext (tk := s₁.toks) hE) hI0 (Heap.get?_push_size _ rfl) (g₁.trans hE.grow) (fun i st₂ hi hI => ?_) fin ht
  have := step i st₂ hi hI
  rw [show (0 : Int) + (i : Int) * 1 = (i : Int) by omega]
  exact this
theorem S_forRev {target e : Expr} {np cpos rp rpos pos : Pos} {body : List Stmt} {Q : AFlow → St → Prop} (BO : BOk B) (hm : B.mg (Str.ofString "range") = none) (hm2 : B.mg (Str.ofString "reversed") = none) (hh : A.handled = none)
    (h : WE B A env e st fun v st₁ => ∃ n : Nat, v = .int n ∧ n ≤ 1000000 ∧ ∃ (I : Nat → St → Prop) (st₀ : St), Le st₀ st₁ ∧ I 0 st₀ ∧
      (∀ i st₂, i < n → I i st₂ → W1 B A env.locals URep (assign target env) (.int ((n : Int) - 1 - i)) st₂ fun _ st₃ => WB B A env body st₃ (ForQ I i Q)) ∧ (∀ st₂, I n st₂ → Q .next st₂))
    (hs : ∀ x, foldedSetIterable (.Call (.Name (Str.ofString "reversed") rp) [.Call (.Name (Str.ofString "range") np) [e] [] cpos] [] rpos) env x = pure x := by intro _; rfl) (ht : ∀ it v, letOwnedTupleGo target it v = pure () := by intro _ _; rfl)
    (hg : env.globals = mainGlobals := by rfl) (hbn : env.builtins = builtinsNs := by rfl) (hk : env.scope.kind = .function := by rfl) (hx : env.kindOf (Str.ofString "range") = some .globalImplicit := by rfl)
    (hx2 : env.kindOf (Str.ofString "reversed") = some .globalImplicit := by rfl) (he : starEach [e] env = (false, eval e env) :: starEach [] env := by rfl)
    (he2 : starEach [.Call (.Name (Str.ofString "range") np) [e] [] cpos] env = (false, eval (.Call (.Name (Str.ofString "range") np) [e] [] cpos) env) :: starEach [] env := by rfl) :
    WS B A env (.For target (.Call (.Name (Str.ofString "reversed") rp) [.Call (.Name (Str.ofString "range") np) [e] [] cpos] [] rpos) body [] pos) st Q := fun K s R => by
  refine wpAny_For (Call_ (Name_function_global hk hx2 (loadGlobal_builtin (env := env) (hg ▸ BO.g.keeps R.baseAt) hm2 (hbn ▸ BO.b.keeps R.baseAt) ((BO.builtins _ (by decide)).trans (show bootBuiltins (Str.ofString "reversed") = some (.type "reversed") by decide +kernel)) ?_) (by decide))) hs
  refine callWith_type1 (args_cons (range_obj BO hm R h ?_ (fun v st₁ ⟨n, e, _⟩ => ⟨n, e⟩) hg hbn hk hx he) he2) he2 (by rfl)
  rintro n st₁ s₁ r t u v ⟨m, e, hz, I, st₀, hle, hI0, step, fin⟩ R₁ g₁ hr
  cases e
  have hfr : ∀ o, ¬ K s₁.heap.objs.size o := fun o q => by have := R₁.keep _ o q; rw [size_none] at this; cases this
  refine args_nil (call_reversed_range hr hz fun h' hE hit => ?_)
  refine wpAny_pyIter_rangeiter hit ?_
  refine range_core (I := I) (a := (m : Int) - 1) (c := -1) hh hfr ((R₁.weaken hle).ext (tk := s₁.toks) hE) hI0 hit (g₁.trans hE.grow) (fun i st₂ hi hI => ?_) fin ht
  have := step i st₂ hi hI
  rw [show ((m : Int) - 1) + (i : Int) * (-1) = (m : Int) - 1 - i by omega]
  exact this
end
end Mine
end

/-! ## M13 -/
section
set_option maxRecDepth 100000
namespace Mine
open PySem PySem.W PySem.Calls PySem.SeqAt PyProof.Rows

structure Src (B : Bs) (A : Around) (It : Addr) (n : Nat) (item : Nat → V) (At : Nat → Heap → Prop) (Own : Store → Prop) : Prop where
  obj : ∀ i h, At i h → ∃ ob fs, h.get? It = some ob ∧ ob.data = .fields fs ∧ ∀ h', h'.get? It = some ob → At i h'
  next : ∀ K L st s i, Rep B K L st s → At i s.heap → (∀ o, ¬ K It o) → Own st.σ → i < n →
    wpAny (model B.prog B.w) A (pyNext (.ref It)) (fun r s' => ∃ v, r = some v ∧ VRep s'.heap v (item i) ∧ Rep B K L st s' ∧ Grow s.heap s'.heap ∧ At (i + 1) s'.heap) (fun _ _ => False) s
  done : ∀ K L st s, Rep B K L st s → At n s.heap → (∀ o, ¬ K It o) → Own st.σ →
    wpAny (model B.prog B.w) A (pyNext (.ref It)) (fun r s' => r = none ∧ Rep B K L st s' ∧ Grow s.heap s'.heap) (fun _ _ => False) s
  self : ∀ i (s : Shared) (Q : Value → Shared → Prop) (E : Value → Shared → Prop), At i s.heap → Q (.ref It) s → wpAny (model B.prog B.w) A (pyIter (.ref It)) Q E s

section
variable {B : Bs} {A : Around} {env : Env} {st : St} {L : Addr}

theorem Src.list (hh : A.handled = none) (It l : Addr) (xs : List V) : Src B A It xs.length (fun i => xs.getD i .none) (fun i h => h.IsListIter It l i) (fun σ => σ l = some (.list xs)) where
  obj := fun i h ⟨ob, e1, e2, e3⟩ => ⟨ob, _, e1, e3, fun h' q => ⟨ob, q, e2, e3⟩⟩
  next := fun K L st s i R hit hK hl hi => by
    obtain ⟨us, n', hL', hv', hz'⟩ := R.ob l _ hl
    obtain ⟨ob, hob, hcls, hdat⟩ := id hit
    obtain ⟨y, hy, ry⟩ := hv'.get (i := i) (y := xs[i]) (by simp [hi])
    refine wpAny_pyNext_list_item hit hL'.isList (x := y) (by simpa using hy) fun h₃ hit₃ hs₃ => ?_
    obtain ⟨R₃, g₃⟩ := R.other (tk := s.toks) (h' := h₃) hob hdat hK fun b o hb q => hs₃.extBut b o hb q
    have e : xs.getD i .none = xs[i] := by simp [hi]
    exact ⟨y, rfl, by rw [e]; exact ry.grow g₃, R₃, g₃, hit₃⟩
  done := fun K L st s R hit hK hl => by
    obtain ⟨us, n', hL', hv', hz'⟩ := R.ob l _ hl
    have hlen := hv'.length
    obtain ⟨ob, hob, hcls, hdat⟩ := id hit
    refine wpAny_pyNext_list_end hh hit hL'.isList (by simp; omega) fun h₃ he₃ => ?_
    obtain ⟨R₃, g₃⟩ := R.other (tk := s.toks) (h' := h₃) hob hdat hK fun b o hb q => he₃ b o hb q
    exact ⟨rfl, R₃, g₃⟩
  self := fun i s Q E hit h => wpAny_pyIter_listiter hit h
theorem Src.range (hh : A.handled = none) (It : Addr) (n : Nat) : Src B A It n (fun i => .int i) (fun i h => IsRangeIter h It (i : Nat) ((n : Int) - (i : Nat)) 1) (fun _ => True) where
  obj := fun i h e => ⟨_, _, e, rfl, fun h' q => q⟩
  next := fun K L st s i R hit hK hl hi => by
    refine wpAny_pyNext_range_item hit (by omega) fun h₃ hit₃ hs₃ => ?_
    obtain ⟨R₃, g₃⟩ := R.other (tk := s.toks + 1) (h' := h₃) hit rfl hK fun b o hb q => hs₃.extBut b o hb q
    refine ⟨_, rfl, ⟨_, rfl⟩, R₃, g₃, ?_⟩
    have e1 : ((i + 1 : Nat) : Int) = (i : Int) + 1 := by push_cast; rfl
    have e2 : (n : Int) - ((i + 1 : Nat) : Int) = (n : Int) - (i : Int) - 1 := by push_cast; omega
    rw [e1, ← e1, e2, e1]
    exact hit₃
  done := fun K L st s R hit hK hl => by
    refine wpAny_pyNext_range_end hh hit (by omega) fun h₃ he₃ => ?_
    obtain ⟨R₃, g₃⟩ := R.other (tk := s.toks) (h' := h₃) hit rfl hK fun b o hb q => he₃ b o hb q
    exact ⟨rfl, R₃, g₃⟩
  self := fun i s Q E hit h => wpAny_pyIter_rangeiter hit h

/-- the tests of a comprehension -/
abbrev WC (B : Bs) (A : Around) (env : Env) (ifs : List Expr) (st : St) (Q : Bool → St → Prop) : Prop :=
  W B A env.locals BRep (forIn ifs true fun c r => if r = true then do let ok ← isTrue c env (eval c env); pure (ForInStep.yield ok) else pure (ForInStep.yield r)) st Q
theorem C_nil {Q : Bool → St → Prop} (h : Q true st) : WC B A env [] st Q := fun K s R => wpAny_tests_nil ⟨true, st, rfl, R, Grow.refl _, h⟩
theorem C_one {c : Expr} {Q : Bool → St → Prop} (h : WT B A env c st Q) : WC B A env [c] st Q := fun K s R => wpAny_tests_one (h K s R)

/-- what a comprehension does, told over the store; D holds what is gathered -/
structure Gather (B : Bs) (A : Around) (cenv : Addr → Env) (x : Str) (ifs : List Expr) (elt : Expr) (n : Nat) (item : Nat → V) (Own : Store → Prop) (D : Addr) (J : Nat → List V → Store → Prop) : Prop where
  has : ∀ i acc τ, J i acc τ → Own τ ∧ τ D = some (.list acc) ∧ acc.length ≤ i
  turn : ∀ i acc τ C, i < n → J i acc τ → WC B A (cenv C) ifs ⟨[(x, item i)], τ⟩ fun b st₂ =>
    if b then WE B A (cenv C) elt st₂ fun y st₃ => st₃.σ D = some (.list acc) ∧ J (i + 1) (acc ++ [y]) (upd st₃.σ D (.list (acc ++ [y]))) else J (i + 1) acc st₂.σ

theorem comp_core {x : Str} {px pos : Pos} {elt iter : Expr} {ifs : List Expr} {scope : Scope} {cl : List (Str × Addr)} {It D C : Addr} {n : Nat} {item : Nat → V} {At : Nat → Heap → Prop} {Own : Store → Prop} {J : Nat → List V → Store → Prop} {K : Addr → Obj → Prop} {s : Shared} {τ : Store}
    {RR : Result → Shared → Prop} {cenv : Env} (S : Src B A It n item At Own) (G : Gather B A (fun C => compEnvC scope cl C env) x ifs elt n item Own D J) (hz : n ≤ 1000000) (hce : cenv = compEnvC scope cl C env)
    (hx : cenv.kindOf x = some .local) (hp : (cenv.scope.kind == .class || (cenv.scope.kind == .module && cenv.locals != cenv.globals)) = false)
    (hKI : ∀ o, ¬ K It o) (R : Rep B K C ⟨[], τ⟩ s) (hAt : At 0 s.heap) (hJ : J 0 [] τ)
    (fin : ∀ acc τ' s', J n acc τ' → Rep B K C ⟨[], τ'⟩ s' → Grow s.heap s'.heap → RR (.ok .next) s') :
    codeAny (model B.prog B.w) A (.compLoop (.ListComp elt [⟨.Name x px, iter, ifs, 0⟩] scope pos) 0 (.ref It) (.ref D) cenv) RR s := by
  subst hce
  refine codeAny_compLoop_tests (fun k s' => ∃ i acc τ', k = n - i ∧ i ≤ n ∧ J i acc τ' ∧ Rep B K C ⟨[], τ'⟩ s' ∧ Grow s.heap s'.heap ∧ At i s'.heap) ?_ n ⟨0, [], τ, rfl, Nat.zero_le _, hJ, R, Grow.refl _, hAt⟩
  rintro k s₁ ⟨i, acc, τ', rfl, hi, hJ', R₁, g₁, hAt₁⟩
  obtain ⟨hown, hD, hal⟩ := G.has i acc τ' hJ'
  by_cases hlt : i < n
  · refine wpAny_noRaise (wbind (S.next K C _ s₁ i R₁ hAt₁ hKI hown hlt) ?_)
    rintro r s₂ ⟨v, rfl, rv, R₂, g₂, hAt₂⟩
    dsimp only
    obtain ⟨ob, fs, hob, hdat, hstab⟩ := S.obj _ _ hAt₂
    have R₂' := R₂.moreK hob hdat
    refine wpAny_noRaise (wbind ((A_name (env := compEnvC scope cl C env) (W1_store (Q := fun _ st' => st' = ⟨[(x, item i)], τ'⟩) rfl hx hp)) v _ s₂ R₂' rv) ?_)
    rintro _ s₃ ⟨_, st₃, _, R₃, g₃, rfl⟩
    refine wpAny_noRaise (wbind (G.turn i acc τ' C hlt hJ' _ s₃ R₃) ?_)
    rintro ok s₄ ⟨b, st₄, e, R₄, g₄, h₄⟩
    obtain rfl : ok = b := e
    have g14 := ((g₁.trans g₂).trans g₃).trans g₄
    cases ok with
    | false =>
      simp only [Bool.false_eq_true, if_false] at h₄ ⊢
      refine ⟨n - (i + 1), by omega, i + 1, acc, st₄.σ, rfl, hlt, h₄, (R₄.lessK (fun b o q => .inl q) R.base).weaken ⟨fun _ _ e => by simp at e, fun _ _ e => e⟩, g14, hstab _ (R₄.keep _ _ (.inr ⟨rfl, rfl⟩))⟩
    | true =>
      simp only [if_true] at h₄ ⊢
      refine wpAny_noRaise (wbind (h₄ _ s₄ R₄) ?_)
      rintro y s₅ ⟨yv, st₅, ry, R₅, g₅, hD₅, hJ₅⟩
      obtain ⟨us, n', hL', hv', hz'⟩ := R₅.ob D _ hD₅
      have hlen : us.length = acc.length := hv'.length
      have ee : ∀ b o, b ≠ D → s₅.heap.get? b = some o → (s₅.heap.update D (Obj.mapSeq (·.push y))).get? b = some o := fun b o hb q => (Heap.get?_update_ne _ _ _ _ hb).trans q
      refine wpAny_noRaise (wpAny_call_entry slot_list_append hL'.isList.typeIs entry_list_append ?_ (args_list_append _ _))
      show wpAny _ _ (updateSeq D (·.push y) >>= fun _ => ret .none) _ _ s₅
      refine wpAny_bind (wpAny_updateSeq hL' rfl (wpAny_pure ⟨.none, rfl, ?_⟩) (hz := line_ok (by simp; omega)) (_hz' := by
        have := line_ok (n := us.length) (by omega)
        simp; omega))
      have q := IsL.update hL' (·.push y)
      rw [List.push_toArray] at q
      have R₆ := R₅.mod (tk := s₅.toks) (o := .list (acc ++ [yv])) hD₅ ee ⟨us ++ [y], _, q, (hv'.append (.cons ry .nil)).grow (R₅.growMod hD₅ ee), by simp; omega⟩
      refine ⟨n - (i + 1), by omega, i + 1, acc ++ [yv], _, rfl, hlt, hJ₅, (R₆.lessK (fun b o q => .inl q) R.base).weaken ⟨fun _ _ e => by simp at e, fun _ _ e => e⟩, (g14.trans g₅).trans (R₅.growMod hD₅ ee), hstab _ (R₆.keep _ _ (.inr ⟨rfl, rfl⟩))⟩
  · have hieq : i = n := by omega
    subst hieq
    refine wpAny_noRaise (wbind (S.done K C _ s₁ R₁ hAt₁ hKI hown) ?_)
    rintro r s₂ ⟨rfl, R₂, g₂⟩
    exact fin acc τ' s₂ hJ' R₂ (g₁.trans g₂)

/-- the frame of a comprehension, entered -/
theorem comp_enter {x : Str} {px pos : Pos} {elt iter : Expr} {ifs : List Expr} {scope : Scope} {cl : List (Str × Addr)} {It : Addr} {n : Nat} {item : Nat → V} {At : Nat → Heap → Prop} {Own : Store → Prop} {K : Addr → Obj → Prop} {s : Shared} {st : St}
    {RR : Value → Addr → Result → Shared → Prop} {Q : V → Store → Prop} (S : Src B A It n item At Own) (hz : n ≤ 1000000) (hKI : ∀ o, ¬ K It o) (hIL : It ≠ env.locals) (R : Rep B K env.locals st s) (hAt : At 0 s.heap)
    (hcell : ∀ y ∈ scope.names, y.2 ≠ .cell) (hkind : scope.kind = .function) (hx : scope.names.lookup x = some .local)
    (hG : ∀ D, st.σ D = none → ∃ J, Gather B A (fun C => compEnvC scope cl C env) x ifs elt n item Own D J ∧ J 0 [] (upd st.σ D (.list [])) ∧ ∀ acc τ, J n acc τ → Q (.ref D) τ)
    (fin : ∀ D C m' τ s', Q (.ref D) τ → Rep B K env.locals ⟨st.m, τ⟩ s' → s'.heap.Ns C m' → s.heap.get? C = none → (∀ o, ¬ K C o) → C ≠ env.locals → τ C = none → Grow s.heap s'.heap → RR (.ref D) C (.ok .next) s') :
    wpAny (model B.prog B.w) A (newList []) (fun acc s₃ => wpAny (model B.prog B.w) A (newFunctionEnv scope env.globals cl [] env.qual none .none (some env)) (fun cenv s₄ =>
      codeAny (model B.prog B.w) A (.compStart (.ListComp elt [⟨.Name x px, iter, ifs, 0⟩] scope pos) 0 (.ref It) acc { cenv with scope := relabel scope env }) (RR acc cenv.locals) s₄) (fun _ _ => False) s₃) (fun _ _ => False) s := by
  refine wpAny_newObj_type (wpAny_newFunctionEnv hcell (by intro y hy; simp at hy) (fun h₁ hns₁ hsb₁ => ?_) hkind)
  dsimp only at hns₁ hsb₁ ⊢
  generalize hH2 : s.heap.push { cls := .type "list", dict := none, data := .seq ([] : List Value).toArray } = H2 at hns₁ hsb₁ ⊢
  have hE2 : Ext s.heap H2 := hH2 ▸ Ext.push _ _
  have hE3 : Ext H2 h₁ := fun b o q => hsb₁.extBut b o (fun z => by rw [z, size_none] at q; cases q) (Heap.get?_push_of_some _ q)
  have hE : Ext s.heap h₁ := hE2.trans hE3
  have hfrD : s.heap.get? s.heap.objs.size = none := size_none _
  have hfrC : s.heap.get? H2.objs.size = none := by
    cases e : s.heap.get? H2.objs.size with
    | none => rfl
    | some o => have := hE2 _ _ e; rw [size_none] at this; cases this
  have hDσ : st.σ s.heap.objs.size = none := R.fresh hfrD
  have hCσ : st.σ H2.objs.size = none := R.fresh hfrC
  have hDC : s.heap.objs.size ≠ H2.objs.size := by rw [← hH2, Heap.size_push]; exact Nat.ne_of_lt (Nat.lt_succ_self _)
  have hKC : ∀ o, ¬ K H2.objs.size o := fun o q => by have := R.keep _ o q; rw [hfrC] at this; cases this
  obtain ⟨J, G, hJ0, hJn⟩ := hG s.heap.objs.size hDσ
  have hLD : IsL h₁ s.heap.objs.size ([] : List Value).toArray 0 := hE3 _ _ (hH2 ▸ IsL.new _ _)
  have RA := R.alloc (tk := s.toks + ([] : List (Str × Value)).length) (o := .list []) hE hfrD ⟨[], 0, hLD, .nil, by simp⟩
  obtain ⟨mL, hnL, hmL⟩ := R.ns
  obtain ⟨oL, esL, epL, hoL, hrestL⟩ := id hnL
  have hLσ : ∀ o, st.σ env.locals ≠ some o := fun o e => (R.ob _ o e).ne_ns hnL
  have hCL : H2.objs.size ≠ env.locals := fun z => by rw [← z, hfrC] at hoL; cases hoL
  have hDL : s.heap.objs.size ≠ env.locals := fun z => by rw [← z, hfrD] at hoL; cases hoL
  have RC : Rep B (fun b o => K b o ∨ (b = env.locals ∧ o = oL)) H2.objs.size ⟨[], upd st.σ s.heap.objs.size (.list [])⟩ { s with heap := h₁, toks := s.toks + ([] : List (Str × Value)).length } := by
    refine ⟨RA.sh, ⟨_, hns₁, fun y v q => by simp at q⟩, RA.ob, fun b o q => ?_, fun o q => ?_, fun b o q => ?_, fun b o q => .inl (RA.base b o q)⟩
    · rcases q with q | ⟨rfl, rfl⟩
      · exact RA.keep b o q
      · exact hE _ _ hoL
    · rcases q with q | ⟨z, _⟩
      · exact hKC o q
      · exact hCL z
    · rcases q with q | ⟨rfl, rfl⟩
      · exact RA.kσ b o q
      · show (if _ then _ else _) = _
        rw [if_neg (fun z => hDL z.symm)]
        cases e : st.σ env.locals with
        | none => rfl
        | some o => exact absurd e (hLσ o)
  obtain ⟨ob, fs, hob, hdat, hstab⟩ := S.obj _ _ hAt
  have hAt₁ : At 0 h₁ := hstab _ (hE _ _ hob)
  have loop : codeAny (model B.prog B.w) A (.compLoop (.ListComp elt [⟨.Name x px, iter, ifs, 0⟩] scope pos) 0 (.ref It) (.ref s.heap.objs.size) (compEnvC scope cl H2.objs.size env)) (RR (.ref s.heap.objs.size) H2.objs.size) { s with heap := h₁, toks := s.toks + ([] : List (Str × Value)).length } := by
    refine comp_core (C := H2.objs.size) (env := env) S G hz rfl (lookup_relabel_local hx) (by simp [compEnvC, relabel, hkind]) (K := fun b o => K b o ∨ (b = env.locals ∧ o = oL)) ?_ RC hAt₁ hJ0 fun acc τ' s' hJ' R' g' => ?_
    · intro o q
      rcases q with q | ⟨z, _⟩
      · exact hKI o q
      · exact hIL z
    · obtain ⟨mC, hnC, _⟩ := R'.ns
      have g := hE.grow.trans g'
      have hCτ : τ' H2.objs.size = none := by
        cases e : τ' H2.objs.size with
        | none => rfl
        | some o => exact ((R'.ob _ o e).ne_ns hnC).elim
      refine fin _ _ mC τ' s' (hJn acc τ' hJ') ⟨R'.sh, ⟨mL, ⟨oL, esL, epL, R'.keep _ _ (.inr ⟨rfl, rfl⟩), hrestL⟩, fun y v q => let ⟨v', q1, q2⟩ := hmL y v q; ⟨v', q1, q2.grow g⟩⟩, R'.ob, fun b o q => R'.keep b o (.inl q), R.kL, fun b o q => R'.kσ b o (.inl q), R.base⟩ hnC hfrC hKC hCL hCτ g
  exact codeAny_compStart_list loop (S.self 0 _ _ _ hAt₁ loop)

/-- behind a comprehension its own frame turns once more -/
theorem Rep.frameGone {K : Addr → Obj → Prop} {s : Shared} {C : Addr} {h' : Heap} (R : Rep B K L st s) {m : Str → Option Value} (hn : s.heap.Ns C m) (hK : ∀ o, ¬ K C o) (hCL : C ≠ L) (hσ : st.σ C = none) (hs : Heap.SameBut C s.heap h') :
    Rep B K L st { s with heap := h' } ∧ Grow s.heap h' := by
  have g : Grow s.heap h' := fun b vs n q => (hs.2 b fun z => by
    obtain ⟨o', es, ep, e, d', _⟩ := hn
    subst z
    have := e.symm.trans q
    simp at this
    rw [this] at d'
    simp at d').trans q
  obtain ⟨h0, tk, e⟩ := R.sh
  refine ⟨⟨⟨h', tk, by rw [e]⟩, ?_, fun b o q => (R.ob b o q).at g fun ob z => (hs.2 b fun zz => by subst zz; rw [hσ] at q; cases q).trans z, fun b o q => (hs.2 b fun z => by subst z; exact hK o q).trans (R.keep b o q), R.kL, R.kσ, R.base⟩, g⟩
  obtain ⟨m', h1, h2⟩ := R.ns
  exact ⟨m', h1.sameBut hs (Ne.symm hCL), fun x v q => let ⟨v', q1, q2⟩ := h2 x v q; ⟨v', q1, q2.grow g⟩⟩
end
end Mine
end

/-! ## M14 -/
section
set_option maxRecDepth 100000
namespace Mine
open PySem PySem.W PySem.Calls PySem.SeqAt PyProof.Rows

section
variable {B : Bs} {A : Around} {env : Env} {st : St} {L : Addr}

theorem Rep.moreK' {K : Addr → Obj → Prop} {s : Shared} {a : Addr} {ob : Obj} (R : Rep B K L st s) (hob : s.heap.get? a = some ob) (hL : a ≠ L) (hσ : st.σ a = none) : Rep B (fun b o => K b o ∨ (b = a ∧ o = ob)) L st s where
  sh := R.sh
  ns := R.ns
  ob := R.ob
  keep := fun b o q => by
    rcases q with q | ⟨rfl, rfl⟩
    · exact R.keep b o q
    · exact hob
  kL := fun o q => by
    rcases q with q | ⟨e, rfl⟩
    · exact R.kL o q
    · exact hL e.symm
  kσ := fun b o q => by
    rcases q with q | ⟨rfl, rfl⟩
    · exact R.kσ b o q
    · exact hσ
  base := fun b o q => .inl (R.base b o q)

/-- a source that stands: a list of the call's own | range(n) -/
def SrcOK (B : Bs) (A : Around) (env : Env) (scope : Scope) (cl : List (Str × Addr)) (x : Str) (ifs : List Expr) (elt : Expr) (n : Nat) (item : Nat → V) (Own : Store → Prop) (st : St) (Q : V → St → Prop) : Prop :=
  ∀ D, st.σ D = none → ∃ J, Gather B A (fun C => compEnvC scope cl C env) x ifs elt n item Own D J ∧ J 0 [] (upd st.σ D (.list [])) ∧ ∀ acc τ, J n acc τ → Q (.ref D) ⟨st.m, τ⟩

section
variable {elt iter : Expr} {x : Str} {px pos : Pos} {ifs : List Expr} {scope : Scope} {cl : List (Str × Addr)}

theorem comp_eval {K : Addr → Obj → Prop} {s₁ s₂ : Shared} {h0 : Heap} {Q : V → St → Prop} {It : Addr} {n : Nat} {item : Nat → V} {At : Nat → Heap → Prop} {Own : Store → Prop} (S : Src B A It n item At Own) (hz : n ≤ 1000000)
    (hKI : ∀ o, ¬ K It o) (hIL : It ≠ env.locals) (R : Rep B K env.locals st s₂) (hAt : At 0 s₂.heap) (g : Grow h0 s₂.heap) (h : SrcOK B A env scope cl x ifs elt n item Own st Q)
    (hcell : ∀ y ∈ scope.names, y.2 ≠ .cell) (hkind : scope.kind = .function) (hx : scope.names.lookup x = some .local) :
    wpAny (model B.prog B.w) A (newList []) (fun acc s₃ => wpAny (model B.prog B.w) A (newFunctionEnv scope env.globals cl [] env.qual none .none (some env)) (fun cenv s₄ =>
      codeAny (model B.prog B.w) A (.compStart (.ListComp elt [⟨.Name x px, iter, ifs, 0⟩] scope pos) 0 (.ref It) acc { cenv with scope := relabel scope env }) (compPost (model B.prog B.w) A (fun _ _ => False) none (Post B K env.locals VRep Q h0) acc cenv.locals) s₄) (fun _ _ => False) s₃) (fun _ _ => False) s₂ := by
  refine comp_enter (RR := fun acc C => compPost (model B.prog B.w) A (fun _ _ => False) none (Post B K env.locals VRep Q h0) acc C) (Q := fun v τ => Q v ⟨st.m, τ⟩) S hz hKI hIL R hAt hcell hkind hx (fun D hD => by
    obtain ⟨J, G, h1, h2⟩ := h D hD
    exact ⟨J, G, h1, h2⟩) ?_
  intro D C m' τ s' hQ R' hn hfr hKC hCL hCσ g'
  refine ⟨m', hn, fun h' hs => ?_⟩
  obtain ⟨R'', g''⟩ := R'.frameGone hn hKC hCL hCσ hs
  exact ⟨V.ref D, _, rfl, R'', (g.trans g').trans g'', hQ⟩
theorem comp_used {K : Addr → Obj → Prop} {s₂ : Shared} {h0 : Heap} {Q : Unit → St → Prop} {It : Addr} {n : Nat} {item : Nat → V} {At : Nat → Heap → Prop} {Own : Store → Prop} {u : Value → Sem Unit} (S : Src B A It n item At Own) (hz : n ≤ 1000000)
    (hKI : ∀ o, ¬ K It o) (hIL : It ≠ env.locals) (R : Rep B K env.locals st s₂) (hAt : At 0 s₂.heap) (g : Grow h0 s₂.heap) (h : SrcOK B A env scope cl x ifs elt n item Own st fun v st' => W1 B A env.locals URep u v st' Q)
    (hcell : ∀ y ∈ scope.names, y.2 ≠ .cell) (hkind : scope.kind = .function) (hx : scope.names.lookup x = some .local) :
    wpAny (model B.prog B.w) A (newList []) (fun acc s₃ => wpAny (model B.prog B.w) A (newFunctionEnv scope env.globals cl [] env.qual none .none (some env)) (fun cenv s₄ =>
      codeAny (model B.prog B.w) A (.compStart (.ListComp elt [⟨.Name x px, iter, ifs, 0⟩] scope pos) 0 (.ref It) acc { cenv with scope := relabel scope env }) (compPost (model B.prog B.w) A (fun _ _ => False) (some u) (fun _ s' => Post B K env.locals URep Q h0 () s') acc cenv.locals) s₄) (fun _ _ => False) s₃) (fun _ _ => False) s₂ := by
  refine comp_enter (RR := fun acc C => compPost (model B.prog B.w) A (fun _ _ => False) (some u) (fun _ s' => Post B K env.locals URep Q h0 () s') acc C) (Q := fun v τ => W1 B A env.locals URep u v ⟨st.m, τ⟩ Q) S hz hKI hIL R hAt hcell hkind hx (fun D hD => by
    obtain ⟨J, G, h1, h2⟩ := h D hD
    exact ⟨J, G, h1, h2⟩) ?_
  intro D C m' τ s' hQ R' hn hfr hKC hCL hCσ g'
  obtain ⟨oC, esC, epC, hoC, hrest⟩ := id hn
  show wpAny _ A (u (.ref D)) _ _ _
  refine wbind (hQ (.ref D) _ s' (R'.moreK' hoC hCL hCσ) rfl) ?_
  rintro _ s'' ⟨_, st'', _, R'', g'', hq⟩
  have hn'' : s''.heap.Ns C m' := ⟨oC, esC, epC, R''.keep _ _ (.inr ⟨rfl, rfl⟩), hrest⟩
  refine ⟨m', hn'', fun h' hs => ?_⟩
  obtain ⟨R3, g3⟩ := (R''.lessK (fun b o q => .inl q) R.base).frameGone hn'' hKC hCL (R''.kσ C oC (.inr ⟨rfl, rfl⟩)) hs
  exact ⟨(), st'', trivial, R3, ((g.trans g').trans g'').trans g3, hq⟩

theorem iter_list {l : Addr} {xs : List V} {K : Addr → Obj → Prop} {s : Shared} {T : Value → Shared → Prop} (hh : A.handled = none) (R : Rep B K env.locals st s) (hl : st.σ l = some (.list xs))
    (k : ∀ It s₂, Src B A It xs.length (fun i => xs.getD i .none) (fun i h => h.IsListIter It l i) (fun σ => σ l = some (.list xs)) → (∀ o, ¬ K It o) → It ≠ env.locals → Rep B K env.locals st s₂ → s₂.heap.IsListIter It l 0 → Grow s.heap s₂.heap → T (.ref It) s₂) :
    wpAny (model B.prog B.w) A (pyIter (.ref l)) T (fun _ _ => False) s := by
  obtain ⟨vs, n, hL, hv, hz⟩ := R.ob l _ hl
  refine wpAny_pyIter_list hL.isList ?_
  have hE : Ext s.heap (s.heap.push { cls := .type "list_iterator", data := .fields #[.ref l, .int 0 0] }) := Ext.push _ _
  have hfr : ∀ o, ¬ K s.heap.objs.size o := fun o q => by have := R.keep _ o q; rw [size_none] at this; cases this
  have hIL : s.heap.objs.size ≠ env.locals := fun z => by
    obtain ⟨m', ⟨o, _, _, e, _⟩, _⟩ := R.ns
    rw [← z, size_none] at e; cases e
  exact k _ _ (Src.list hh _ l xs) hfr hIL (R.ext (tk := s.toks) hE) ⟨_, Heap.get?_push_size _ rfl, rfl, rfl⟩ hE.grow
theorem iter_range {r : Addr} {n : Nat} {t u v : Tok} {K : Addr → Obj → Prop} {s : Shared} {T : Value → Shared → Prop} (hh : A.handled = none) (R : Rep B K env.locals st s) (hr : IsRange s.heap r 0 n 1 t u v) (hz : n ≤ 1000000)
    (k : ∀ It s₂, Src B A It n (fun i => .int i) (fun i h => IsRangeIter h It (i : Nat) ((n : Int) - (i : Nat)) 1) (fun _ => True) → (∀ o, ¬ K It o) → It ≠ env.locals → Rep B K env.locals st s₂ → IsRangeIter s₂.heap It 0 n 1 → Grow s.heap s₂.heap → T (.ref It) s₂) :
    wpAny (model B.prog B.w) A (pyIter (.ref r)) T (fun _ _ => False) s := by
  refine wpAny_pyIter_range hr (range_small hz) ?_
  rw [rangeSize_nat, show (((n : Int) - 0).toNat : Int) = n by omega]
  have hE : Ext s.heap (s.heap.push { cls := .type "range_iterator", data := .fields #[rawInt 0, rawInt (n : Int), rawInt 1] }) := Ext.push _ _
  have hfr : ∀ o, ¬ K s.heap.objs.size o := fun o q => by have := R.keep _ o q; rw [size_none] at this; cases this
  have hIL : s.heap.objs.size ≠ env.locals := fun z => by
    obtain ⟨m', ⟨o, _, _, e, _⟩, _⟩ := R.ns
    rw [← z, size_none] at e; cases e
  exact k _ _ (Src.range hh _ n) hfr hIL (R.ext (tk := s.toks) hE) (Heap.get?_push_size _ rfl) hE.grow

theorem E_compList {Q : V → St → Prop} (hh : A.handled = none) (hclos : closureFor scope env = pure cl)
    (h : WE B A env iter st fun v st₁ => ∃ l xs, v = .ref l ∧ st₁.σ l = some (.list xs) ∧ xs.length ≤ 1000000 ∧ SrcOK B A env scope cl x ifs elt xs.length (fun i => xs.getD i .none) (fun σ => σ l = some (.list xs)) st₁ Q)
    (hcell : ∀ y ∈ scope.names, y.2 ≠ .cell := by decide) (hkind : scope.kind = .function := by rfl) (hnames : ∀ y ∈ scope.names, y.2 = .local → scope.names.lookup y.1 = some .local := by decide) (hx : scope.names.lookup x = some .local := by rfl)
    (hs : ∀ x, foldedSetIterable iter env x = pure x := by intro _; rfl) : WE B A env (.ListComp elt [⟨.Name x px, iter, ifs, 0⟩] scope pos) st Q := fun K s R => by
  rw [eval_ListComp]
  refine wpAny_comprehension_free (use := none) rfl hs hclos hkind hnames (wbind (h K s R) ?_)
  rintro v s₁ ⟨_, st₁, rv, R₁, g₁, l, xs, rfl, hl, hz, hG⟩
  obtain rfl : v = .ref l := rv
  refine iter_list hh R₁ hl fun It s₂ S hK hIL R₂ hit g₂ => ?_
  exact comp_eval (s₁ := s₁) S hz hK hIL R₂ hit (g₁.trans g₂) hG hcell hkind hx
theorem E_compRange {e : Expr} {np cpos : Pos} {Q : V → St → Prop} (BO : BOk B) (hm : B.mg (Str.ofString "range") = none) (hh : A.handled = none) (hclos : closureFor scope env = pure cl)
    (h : WE B A env e st fun v st₁ => ∃ n : Nat, v = .int n ∧ n ≤ 1000000 ∧ SrcOK B A env scope cl x ifs elt n (fun i => .int i) (fun _ => True) st₁ Q)
    (hcell : ∀ y ∈ scope.names, y.2 ≠ .cell := by decide) (hkind : scope.kind = .function := by rfl) (hnames : ∀ y ∈ scope.names, y.2 = .local → scope.names.lookup y.1 = some .local := by decide) (hx : scope.names.lookup x = some .local := by rfl)
    (hs : ∀ x, foldedSetIterable (.Call (.Name (Str.ofString "range") np) [e] [] cpos) env x = pure x := by intro _; rfl)
    (hg : env.globals = mainGlobals := by rfl) (hbn : env.builtins = builtinsNs := by rfl) (hk : env.scope.kind = .function := by rfl) (hxr : env.kindOf (Str.ofString "range") = some .globalImplicit := by rfl)
    (he : starEach [e] env = (false, eval e env) :: starEach [] env := by rfl) : WE B A env (.ListComp elt [⟨.Name x px, .Call (.Name (Str.ofString "range") np) [e] [] cpos, ifs, 0⟩] scope pos) st Q := fun K s R => by
  rw [eval_ListComp]
  refine wpAny_comprehension_free (use := none) rfl hs hclos hkind hnames (range_obj BO hm R h ?_ (fun v st₁ ⟨n, e, _⟩ => ⟨n, e⟩) hg hbn hk hxr he)
  rintro n st₁ s₁ r t u v ⟨m, e, hz, hG⟩ R₁ g₁ hr
  cases e
  refine iter_range hh R₁ hr hz fun It s₂ S hK hIL R₂ hit g₂ => ?_
  refine comp_eval (s₁ := s₁) S hz hK hIL R₂ ?_ (g₁.trans g₂) hG hcell hkind hx
  simpa using hit
theorem S_assignComp {y : Str} {py spos : Pos} {Q : AFlow → St → Prop} (hh : A.handled = none) (hclos : closureFor scope env = pure cl)
    (h : WE B A env iter st fun v st₁ => ∃ l xs, v = .ref l ∧ st₁.σ l = some (.list xs) ∧ xs.length ≤ 1000000 ∧ SrcOK B A env scope cl x ifs elt xs.length (fun i => xs.getD i .none) (fun σ => σ l = some (.list xs)) st₁ fun v st' => W1 B A env.locals URep (storeName env y) v st' fun _ st'' => Q .next st'')
    (hsw : swapsWith (.ListComp elt [⟨.Name x px, iter, ifs, 0⟩] scope pos) (some (.Name y py)) spos.line env = pure true := by rfl)
    (hcell : ∀ y ∈ scope.names, y.2 ≠ .cell := by decide) (hkind : scope.kind = .function := by rfl) (hnames : ∀ y ∈ scope.names, y.2 = .local → scope.names.lookup y.1 = some .local := by decide) (hx : scope.names.lookup x = some .local := by rfl)
    (hs : ∀ x, foldedSetIterable iter env x = pure x := by intro _; rfl) : WS B A env (.Assign [.Name y py] (.ListComp elt [⟨.Name x px, iter, ifs, 0⟩] scope pos) spos) st Q := fun K s R => by
  rw [exec_Assign_Name_used _ _ _ _ hsw]
  refine wpAny_bind (wpAny_standAt (wpAny_bind ?_))
  show wpAny _ A (do let _ ← comprehension (.ListComp elt [⟨.Name x px, iter, ifs, 0⟩] scope pos) scope env _ (newList []) false (eval iter env) (some (assign (.Name y py) env))) _ _ s
  refine wpAny_bind (wbind (wpAny_comprehension_free (use := some (assign (.Name y py) env)) (Q := fun _ s' => Post B K env.locals URep (fun _ st' => Q .next st') s.heap () s') rfl hs hclos hkind hnames (wbind (h K s R) ?_)) ?_)
  · rintro v s₁ ⟨_, st₁, rv, R₁, g₁, l, xs, rfl, hl, hz, hG⟩
    obtain rfl : v = .ref l := rv
    refine iter_list hh R₁ hl fun It s₂ S hK hIL R₂ hit g₂ => ?_
    refine comp_used S hz hK hIL R₂ hit (g₁.trans g₂) (fun D hD => ?_) hcell hkind hx
    obtain ⟨J, G, h1, h2⟩ := hG D hD
    exact ⟨J, G, h1, fun acc τ hJ => A_name (h2 acc τ hJ)⟩
  · rintro _ s' ⟨_, st', _, R', g', hq⟩
    exact wpAny_pure (wpAny_pure ⟨.next, st', trivial, R', g', hq⟩)
end
end
end Mine
end

/-! ## M15 -/
section
set_option maxRecDepth 100000
namespace Mine
open PySem PySem.W PySem.Calls PySem.SeqAt PyProof.Rows

section
variable {B : Bs} {A : Around} {env : Env} {st : St} {L : Addr}

theorem enterC {K : Addr → Obj → Prop} {s s₁ : Shared} {L' : Addr} {m cm : Str → Option Value} {cs : List (Str × Addr)} {st₁ : St} (R : Rep B K L st s) (X : InCallC s L' m cs cm s₁)
    (hm : ∀ x v, st₁.m.lookup x = some v → ∃ v', m x = some v' ∧ VRep s₁.heap v' v) (hob : ∀ a o, st₁.σ a = some o → st.σ a = some o ∨ (s.heap.get? a = none ∧ ORep s₁.heap a o)) :
    Rep B (fun b o => s.heap.get? b = some o ∧ st.σ b = none) L' st₁ s₁ ∧ Ext s.heap s₁.heap := by
  have hE : Ext s.heap s₁.heap := X.toInCall.keep
  refine ⟨⟨?_, ⟨m, X.toInCall.ns, hm⟩, fun a o e => ?_, fun b o q => hE b o q.1, fun o q => ?_, fun b o q => ?_, fun b o q => ⟨R.baseAt b o q, R.kσ b o (R.base b o q)⟩⟩, hE⟩
  · obtain ⟨h, tk, e⟩ := X.toInCall.same
    obtain ⟨h0, tk0, e0⟩ := R.sh
    exact ⟨h, tk, by rw [e, e0]⟩
  · rcases hob a o e with q | ⟨_, q⟩
    · exact (R.ob a o q).at hE.grow (hE a)
    · exact q
  · exact absurd (Heap.lt_size q.1) (Nat.not_lt.mpr X.toInCall.fresh)
  · cases e : st₁.σ b with
    | none => rfl
    | some o' =>
      rcases hob b o' e with z | ⟨z, _⟩
      · rw [q.2] at z; cases z
      · rw [z] at q; cases q.1
def flowV : Flow → Value
  | .ret v => v
  | _ => .none
theorem leaveF {K : Addr → Obj → Prop} {s s₁ s₂ : Shared} {L' : Addr} {f : Flow} {f' : AFlow} {st₂ : St} {Q : V → St → Prop} (R : Rep B K L st s) (hE : Ext s.heap s₁.heap) (R₂ : Rep B (fun b o => s.heap.get? b = some o ∧ st.σ b = none) L' st₂ s₂) (g₂ : Grow s₁.heap s₂.heap)
    (rf : FRep s₂.heap f f') (h₂ : Q (retV f') ⟨st.m, st₂.σ⟩) : Post B K L VRep Q s.heap (flowV f) s₂ := by
  obtain ⟨m', hn, hm⟩ := R.ns
  have hLσ : st.σ L = none := by
    cases e : st.σ L with
    | none => rfl
    | some o' => exact ((R.ob L o' e).ne_ns hn).elim
  have g : Grow s.heap s₂.heap := hE.grow.trans g₂
  refine ⟨retV f', ⟨st.m, st₂.σ⟩, ?_, ⟨R₂.sh, ⟨m', hn.at' fun o' q => R₂.keep L o' ⟨q, hLσ⟩, fun x v q => let ⟨v', q1, q2⟩ := hm x v q; ⟨v', q1, q2.grow g⟩⟩, R₂.ob, fun b o' q => R₂.keep b o' ⟨R.keep b o' q, R.kσ b o' q⟩, R.kL,
    fun b o' q => R₂.kσ b o' ⟨R.keep b o' q, R.kσ b o' q⟩, R.base⟩, g, h₂⟩
  cases f <;> cases f' <;> first | exact rf.elim | exact rf | rfl

/-- a def of one parameter; its parameter is a cell, the only one -/
theorem fn_introC1 {k : Nat} {name x : Str} {params : Arguments} {body : List Stmt} {scope : Scope} {a : Addr} {P : Con} (BO : BOk B) (D : DefAt B name params body scope a)
    (h : ∀ A cd L Vs σ Q, Ok k A → P Vs σ Q → ∃ v, Vs = [v] ∧ (σ (L + 1) = none → WB B A (envOfC name scope L a cd) body ⟨[], upd σ (L + 1) (.cell (some v))⟩ fun f st => Q (retV f) st.σ))
    (hbind : ∀ pm cd doc (v : Value), bindArgs (Calls.docDef name params body scope pm cd doc) ⟨[v], []⟩ = pure [(x, v)])
    (hx : scope.names.lookup x = some .cell) (hcs : ∀ L : Nat, cellsFrom (L + 1) scope.names [] = [(x, L + 1)])
    (hco : scope.isCoroutine = false := by rfl) (hgen : scope.isGenerator = false := by rfl) (hk : scope.kind = .function := by rfl) : FnOK B (k + 1) a P := fun A hA L st Vs Q hP vs K s R rv => by
  obtain ⟨o, pm, cd, doc, h1, h2, h3⟩ := D.at'
  have hroom : A.depth < recursionLimit := by have := hA.dp; show A.depth < 1000; omega
  obtain ⟨v, rfl, h⟩ := h (A.deeper (envOfC name scope s.heap.objs.size a cd)) cd s.heap.objs.size Vs st.σ _ (hA.deeper _) hP
  obtain ⟨u, rfl, ru⟩ : ∃ u, vs = [u] ∧ VRep s.heap u v := by
    cases rv with
    | cons e1 e2 => cases e2; exact ⟨_, rfl, e1⟩
  refine wpAny_call (codeAny_call_cells (fd := Calls.docDef name params body scope pm cd doc) (binds := [(x, u)]) hroom (R.baseAt _ _ h1) h2 (BO.nolimit.keeps R.baseAt) (h3.keeps R.baseAt) rfl (hbind pm cd doc u) rfl ?_ ?_ hco hgen hk)
  · intro y hy
    have : y = (x, u) := by simpa using hy
    subst this
    refine .inr ⟨hx, ?_⟩
    show ((cellsFrom (s.heap.objs.size + 1) scope.names []).lookup x).isSome = true
    rw [hcs]
    simp
  · intro s₁ X
    have hce : callEnvC (Calls.docDef name params body scope pm cd doc) s.heap.objs.size a = envOfC name scope s.heap.objs.size a cd := rfl
    rw [hce] at X ⊢
    have hfr : s.heap.get? (s.heap.objs.size + 1) = none := by
      cases e : s.heap.get? (s.heap.objs.size + 1) with
      | none => rfl
      | some o => exact absurd (Heap.lt_size e) (Nat.not_lt.mpr (Nat.le_succ _))
    have hkx : (envOfC name scope s.heap.objs.size a cd).kindOf x = some .cell := hx
    have hE : Ext s.heap s₁.heap := X.toInCall.keep
    have hcell : s₁.heap.IsCell (s.heap.objs.size + 1) (some u) := by
      have := X.cell x (s.heap.objs.size + 1) (by show (cellsFrom (s.heap.objs.size + 1) scope.names []).lookup x = _; rw [hcs]; simp)
      have e2 : bindC (envOfC name scope s.heap.objs.size a cd).kindOf [(x, u)] (fun _ => none) x = some u := by
        unfold bindC bindC
        rw [if_neg (by rw [hkx]; decide)]
        simp
      rwa [e2] at this
    obtain ⟨R₁, _⟩ := enterC (st₁ := ⟨[], upd st.σ (s.heap.objs.size + 1) (.cell (some v))⟩) R X (fun y w q => by simp at q) (fun b o' q => by
      by_cases hb : b = s.heap.objs.size + 1
      · subst hb
        have q' : upd st.σ (s.heap.objs.size + 1) (.cell (some v)) (s.heap.objs.size + 1) = some o' := q
        rw [upd_same] at q'
        cases q'
        exact .inr ⟨hfr, u, hcell, ru.grow hE.grow⟩
      · have q' : upd st.σ (s.heap.objs.size + 1) (.cell (some v)) b = some o' := q
        rw [upd_ne hb] at q'
        exact .inl q')
    refine wpAny_noRaise (wbind (h (R.fresh hfr) _ s₁ R₁) ?_)
    rintro f s₂ ⟨f', st₂, rf, R₂, g₂, h₂⟩
    have q := leaveF R hE R₂ g₂ rf h₂
    cases f <;> exact q
/-- a def of one parameter, a local; two cells of its own -/
theorem fn_introC2 {k : Nat} {name x y z : Str} {params : Arguments} {body : List Stmt} {scope : Scope} {a : Addr} {P : Con} (BO : BOk B) (D : DefAt B name params body scope a)
    (h : ∀ A cd L Vs σ Q, Ok k A → P Vs σ Q → ∃ v, Vs = [v] ∧ (σ (L + 1) = none → σ (L + 2) = none → WB B A (envOfC name scope L a cd) body ⟨[(x, v)], upd (upd σ (L + 1) (.cell none)) (L + 2) (.cell none)⟩ fun f st => Q (retV f) st.σ))
    (hbind : ∀ pm cd doc (v : Value), bindArgs (Calls.docDef name params body scope pm cd doc) ⟨[v], []⟩ = pure [(x, v)])
    (hx : scope.names.lookup x = some .local) (hcs : ∀ L : Nat, cellsFrom (L + 1) scope.names [] = [(z, L + 2), (y, L + 1)]) (hyz : (y == z) = false) (hxy : (y == x) = false) (hxz : (z == x) = false)
    (hco : scope.isCoroutine = false := by rfl) (hgen : scope.isGenerator = false := by rfl) (hk : scope.kind = .function := by rfl) : FnOK B (k + 1) a P := fun A hA L st Vs Q hP vs K s R rv => by
  obtain ⟨o, pm, cd, doc, h1, h2, h3⟩ := D.at'
  have hroom : A.depth < recursionLimit := by have := hA.dp; show A.depth < 1000; omega
  obtain ⟨v, rfl, h⟩ := h (A.deeper (envOfC name scope s.heap.objs.size a cd)) cd s.heap.objs.size Vs st.σ _ (hA.deeper _) hP
  obtain ⟨u, rfl, ru⟩ : ∃ u, vs = [u] ∧ VRep s.heap u v := by
    cases rv with
    | cons e1 e2 => cases e2; exact ⟨_, rfl, e1⟩
  refine wpAny_call (codeAny_call_cells (fd := Calls.docDef name params body scope pm cd doc) (binds := [(x, u)]) hroom (R.baseAt _ _ h1) h2 (BO.nolimit.keeps R.baseAt) (h3.keeps R.baseAt) rfl (hbind pm cd doc u) rfl ?_ ?_ hco hgen hk)
  · intro w hw
    have : w = (x, u) := by simpa using hw
    subst this
    exact .inl hx
  · intro s₁ X
    have hce : callEnvC (Calls.docDef name params body scope pm cd doc) s.heap.objs.size a = envOfC name scope s.heap.objs.size a cd := rfl
    rw [hce] at X ⊢
    have hfr : ∀ j, s.heap.get? (s.heap.objs.size + j) = none := fun j => by
      cases e : s.heap.get? (s.heap.objs.size + j) with
      | none => rfl
      | some o => exact absurd (Heap.lt_size e) (Nat.not_lt.mpr (Nat.le_add_right _ _))
    have hkx : (envOfC name scope s.heap.objs.size a cd).kindOf x = some .local := hx
    have hE : Ext s.heap s₁.heap := X.toInCall.keep
    have hbc : ∀ w, bindC (envOfC name scope s.heap.objs.size a cd).kindOf [(x, u)] (fun _ => none) w = none := fun w => by
      unfold bindC bindC
      rw [if_pos hkx]
    have hc1 : s₁.heap.IsCell (s.heap.objs.size + 1) none := by
      have := X.cell y (s.heap.objs.size + 1) (by show (cellsFrom (s.heap.objs.size + 1) scope.names []).lookup y = _; rw [hcs]; simp [List.lookup_cons, hyz])
      rwa [hbc] at this
    have hc2 : s₁.heap.IsCell (s.heap.objs.size + 2) none := by
      have := X.cell z (s.heap.objs.size + 2) (by show (cellsFrom (s.heap.objs.size + 1) scope.names []).lookup z = _; rw [hcs]; simp)
      rwa [hbc] at this
    obtain ⟨R₁, _⟩ := enterC (st₁ := ⟨[(x, v)], upd (upd st.σ (s.heap.objs.size + 1) (.cell none)) (s.heap.objs.size + 2) (.cell none)⟩) R X (fun y w q => by
      dsimp only at q
      rw [List.lookup_cons] at q
      by_cases hy : y = x
      · subst hy
        simp at q
        subst q
        refine ⟨u, ?_, ru.grow hE.grow⟩
        unfold bindL bindL
        rw [if_pos hkx]
        simp
      · have hb : (y == x) = false := by simpa using hy
        rw [hb] at q
        simp at q) (fun b o' q => by
      have q' : upd (upd st.σ (s.heap.objs.size + 1) (.cell none)) (s.heap.objs.size + 2) (.cell none) b = some o' := q
      by_cases hb : b = s.heap.objs.size + 2
      · subst hb
        rw [upd_same] at q'
        cases q'
        exact .inr ⟨hfr 2, hc2⟩
      · rw [upd_ne hb] at q'
        by_cases hb' : b = s.heap.objs.size + 1
        · subst hb'
          rw [upd_same] at q'
          cases q'
          exact .inr ⟨hfr 1, hc1⟩
        · rw [upd_ne hb'] at q'
          exact .inl q')
    refine wpAny_noRaise (wbind (h (R.fresh (hfr 1)) (R.fresh (hfr 2)) _ s₁ R₁) ?_)
    rintro f s₂ ⟨f', st₂, rf, R₂, g₂, h₂⟩
    have q := leaveF R hE R₂ g₂ rf h₂
    cases f <;> exact q
end
end Mine
end

/-! ## M5 -/
section
set_option maxRecDepth 100000
namespace Mine
open PySem PySem.W PySem.Calls PySem.SeqAt PyProof.Rows

def fName : Stmt → Str
  | .FunctionDef name _ _ _ _ _ _ _ _ _ => name
  | _ => default
def fParams : Stmt → Arguments
  | .FunctionDef _ a _ _ _ _ _ _ _ _ => a
  | _ => default
def fBody : Stmt → List Stmt
  | .FunctionDef _ _ b _ _ _ _ _ _ _ => b
  | _ => default
def fScope : Stmt → Scope
  | .FunctionDef _ _ _ _ _ _ s _ _ _ => s
  | _ => default
def inner : Option Stmt → List Stmt
  | some (.While _ b _ _) => b
  | some (.For _ _ b _ _) => b
  | some (.If _ b _ _) => b
  | _ => []
noncomputable def vw : Program := { PySem.Challenge.pw_nb0004_01 with main := { PySem.Challenge.pw_nb0004_01.main with body := (PySem.Challenge.pw_nb0004_01.main.body.drop 1).eraseIdx 12 } }
noncomputable def stmtAt (i : Nat) : Stmt := (vw.main.body[i]?).getD (.Pass default)
noncomputable abbrev DefN (B : Bs) (i : Nat) (a : Addr) : Prop := DefAt B (fName (stmtAt i)) (fParams (stmtAt i)) (fBody (stmtAt i)) (fScope (stmtAt i)) a

theorem len1 {α : Type} {vs : List α} (h : vs.length = 1) : ∃ a, vs = [a] := by
  match vs, h with
  | [a], _ => exact ⟨a, rfl⟩
theorem len2 {α : Type} {vs : List α} (h : vs.length = 2) : ∃ a b, vs = [a, b] := by
  match vs, h with
  | [a, b], _ => exact ⟨a, b, rfl⟩
theorem len3 {α : Type} {vs : List α} (h : vs.length = 3) : ∃ a b c, vs = [a, b, c] := by
  match vs, h with
  | [a, b, c], _ => exact ⟨a, b, c, rfl⟩

theorem lexTot : Tot lexlt := by
  refine ⟨lex_irrefl, lex_trans, ?_⟩
  intro a
  induction a with
  | nil => intro b h; cases b with
    | nil => exact absurd rfl h
    | cons => exact .inl rfl
  | cons i is ih =>
    intro b h
    cases b with
    | nil => exact .inr rfl
    | cons j js =>
      by_cases e : i = j
      · subst e
        simp only [lexlt, if_true]
        exact ih (fun z => h (by rw [z]))
      · simp only [lexlt, e, Ne.symm e, if_false, decide_eq_true_eq]
        omega
def okT (xs : List T) : Prop := ∀ t ∈ xs, t.length = 3
theorem okT.get {xs : List T} (h : okT xs) {i : Nat} (hi : i < xs.length) : (g xs i).length = 3 := by
  refine h _ ?_
  unfold g
  rw [List.getD_eq_getElem?_getD, List.getElem?_eq_getElem hi]
  simp
theorem okT.set {xs : List T} (h : okT xs) {i : Nat} {t : T} (ht : t.length = 3) : okT (xs.set i t) := fun x hx => by
  rcases List.mem_or_eq_of_mem_set hx with q | q
  · exact h x q
  · rw [q]; exact ht
theorem enc_get {xs : List T} {i : Nat} (hi : i < xs.length) : (xs.map V.tup)[i]? = some (.tup (g xs i)) := by simp [g_get hi]
theorem enc_place {xs : List T} {i : Nat} {k : Int} (hi : i < xs.length) (hk : k = (i : Int)) : (xs.map V.tup)[place k (xs.map V.tup).length]? = some (.tup (g xs i)) := by
  subst hk
  have : place (i : Int) (xs.map V.tup).length = i := by unfold place; simp
  rw [this]; exact enc_get hi
theorem enc_set {xs : List T} {i : Nat} {k : Int} {t : T} (hk : k = (i : Int)) : (xs.map V.tup).set k.toNat (.tup t) = (xs.set i t).map V.tup := by
  subst hk
  simp [List.map_set]

noncomputable def Sub : List (Str × V) → List (Str × V) → Prop
  | [], _ => True
  | (x, v) :: r, m => m.lookup x = some v ∧ Sub r m
theorem Sub.get {m' m : List (Str × V)} (h : Sub m' m) : ∀ x v, m'.lookup x = some v → m.lookup x = some v := by
  induction m' with
  | nil => intro x v e; simp at e
  | cons p r ih =>
    obtain ⟨y, u⟩ := p
    intro x v e
    rw [List.lookup_cons] at e
    by_cases hx : x == y
    · rw [hx] at e
      have : x = y := by simpa using hx
      subst this
      cases e
      exact h.1
    · simp only [Bool.not_eq_true] at hx
      rw [hx] at e
      exact ih h.2 x v e
theorem Le.of {m' m : List (Str × V)} {σ' σ : Store} (h : Sub m' m) (hσ : σ' = σ) : Le ⟨m', σ'⟩ ⟨m, σ⟩ := ⟨h.get, fun a o e => by subst hσ; exact e⟩
theorem Le.of' {m' m : List (Str × V)} {σ' σ : Store} (h : Sub m' m) (hσ : ∀ a o, σ' a = some o → σ a = some o) : Le ⟨m', σ'⟩ ⟨m, σ⟩ := ⟨h.get, hσ⟩
theorem upd_self {σ : Store} {l : Addr} {o : AO} (h : σ l = some o) : upd σ l o = σ := by
  funext b
  unfold upd
  by_cases e : b = l
  · subst e; simp [h]
  · simp [e]

structure MG (B : Bs) : Prop where
  len : B.mg (Str.ofString "len") = none
  min : B.mg (Str.ofString "min") = none
  max : B.mg (Str.ofString "max") = none
  abs : B.mg (Str.ofString "abs") = none
  sum : B.mg (Str.ofString "sum") = none
  sorted : B.mg (Str.ofString "sorted") = none
  range : B.mg (Str.ofString "range") = none
  reversed : B.mg (Str.ofString "reversed") = none
theorem bb_len : bootBuiltins (Str.ofString "len") = some (.builtin "len") := by decide +kernel
theorem bb_min : bootBuiltins (Str.ofString "min") = some (.builtin "min") := by decide +kernel
theorem bb_max : bootBuiltins (Str.ofString "max") = some (.builtin "max") := by decide +kernel
theorem bb_abs : bootBuiltins (Str.ofString "abs") = some (.builtin "abs") := by decide +kernel
theorem bb_sum : bootBuiltins (Str.ofString "sum") = some (.builtin "sum") := by decide +kernel
theorem bb_sorted : bootBuiltins (Str.ofString "sorted") = some (.builtin "sorted") := by decide +kernel

theorem FnOK.mono {B : Bs} {k j : Nat} {a : Addr} {P : Con} (h : FnOK B k a P) (hj : k ≤ j) : FnOK B j a P := fun A hA => h A (hA.mono hj)
theorem Fn.of {B : Bs} {i k : Nat} {a : Addr} {P : Con} (D : DefN B i a) (h : FnOK B k a P) : Fn B k (fName (stmtAt i)) P := by
  obtain ⟨o, pm, cd, doc, h1, h2, h3⟩ := D.at'
  exact ⟨a, D.mg, ⟨o, _, h1, h2⟩, h⟩
theorem Fn.mono {B : Bs} {k j : Nat} {f : Str} {P : Con} (h : Fn B k f P) (hj : k ≤ j) : Fn B j f P := by
  obtain ⟨a, h1, h2, h3⟩ := h
  exact ⟨a, h1, h2, h3.mono hj⟩

abbrev enc (xs : List T) : AO := .list (xs.map V.tup)
def C_sd (lt : T → T → Bool) : Con := fun Vs σ Q => ∃ (l : Addr) (a p : Nat) (xs : List T), Vs = [.ref l, .int a, .int p] ∧ σ l = some (enc xs) ∧ okT xs ∧ p < xs.length ∧ Q .none (upd σ l (enc (sdGo lt (g xs p) a p xs)))
def C_su (lt : T → T → Bool) : Con := fun Vs σ Q => ∃ (l : Addr) (p : Nat) (xs : List T), Vs = [.ref l, .int p] ∧ σ l = some (enc xs) ∧ okT xs ∧ p < xs.length ∧ Q .none (upd σ l (enc (su lt xs p)))
def C_push (lt : T → T → Bool) : Con := fun Vs σ Q => ∃ (l : Addr) (xs : List T) (x : T), Vs = [.ref l, .tup x] ∧ σ l = some (enc xs) ∧ okT xs ∧ x.length = 3 ∧ IsHeap lt xs ∧ xs.length ≤ 1000 ∧ ∀ ys, ys.Perm (x :: xs) → IsHeap lt ys → Q .none (upd σ l (enc ys))
def C_pop (lt : T → T → Bool) : Con := fun Vs σ Q => ∃ (l : Addr) (xs : List T), Vs = [.ref l] ∧ σ l = some (enc xs) ∧ okT xs ∧ IsHeap lt xs ∧ xs ≠ [] ∧ ∀ r ys, (r :: ys).Perm xs → IsHeap lt ys → (∀ y ∈ xs, le lt r y) → Q (.tup r) (upd σ l (enc ys))
def C_repl (lt : T → T → Bool) : Con := fun Vs σ Q => ∃ (l : Addr) (xs : List T) (x : T), Vs = [.ref l, .tup x] ∧ σ l = some (enc xs) ∧ okT xs ∧ x.length = 3 ∧ IsHeap lt xs ∧ xs ≠ [] ∧ ∀ r ys, (r :: ys).Perm (x :: xs) → IsHeap lt ys → (∀ y ∈ xs, le lt r y) → r ∈ xs → Q (.tup r) (upd σ l (enc ys))
def C_ppop (lt : T → T → Bool) : Con := fun Vs σ Q => ∃ (l : Addr) (xs : List T) (x : T), Vs = [.ref l, .tup x] ∧ σ l = some (enc xs) ∧ okT xs ∧ x.length = 3 ∧ IsHeap lt xs ∧ ∀ r ys, (r :: ys).Perm (x :: xs) → IsHeap lt ys → (∀ y ∈ x :: xs, le lt r y) → Q (.tup r) (upd σ l (enc ys))
def C_hify (lt : T → T → Bool) : Con := fun Vs σ Q => ∃ (l : Addr) (xs : List T), Vs = [.ref l] ∧ σ l = some (enc xs) ∧ okT xs ∧ xs.length ≤ 1000 ∧ ∀ ys, ys.Perm xs → IsHeap lt ys → Q .none (upd σ l (enc ys))
theorem okT.perm {xs ys : List T} (h : okT xs) (p : ys.Perm xs) : okT ys := fun t ht => h t (p.mem_iff.mp ht)
noncomputable def gtT : T → T → Bool := fun a b => lexlt b a
theorem gtTot : Tot gtT := lexTot.flip
end Mine
end

/-! ## F1 -/
section
set_option maxRecDepth 100000
namespace Mine
open PySem PySem.W PySem.Calls PySem.SeqAt PyProof.Rows

theorem siftdown_ok {B : Bs} (BO : BOk B) {a : Addr} (D : DefN B 8 a) : FnOK B 1 a (C_sd lexlt) := by
  refine fn_intro BO D ?_ (fun pm cd doc vs hv => by obtain ⟨_, _, _, rfl⟩ := len3 hv; rfl) (fun vs hv => by obtain ⟨_, _, _, rfl⟩ := len3 hv; exact locs (by rfl))
  rintro A cd L Vs σ Q hA ⟨l, a0, p0, xs, rfl, hl, hok, hp, hQ⟩
  refine ⟨rfl, ?_⟩
  refine B_cons (S_assign (E_sub (E_local rfl (E_local rfl (item_list hl (by simp; omega) (enc_place hp rfl) (W1_store ?_))))))
  refine B_cons ?_
  refine S_while (ι := Nat × List T) (fun i st => st = ⟨[(Str.ofString "newitem", .tup (g xs p0)), (Str.ofString "heap", .ref l), (Str.ofString "startpos", .int a0), (Str.ofString "pos", .int i.1)], upd σ l (enc i.2)⟩ ∧ i.1 < i.2.length ∧ okT i.2 ∧ sdGo lexlt (g xs p0) a0 i.1 i.2 = sdGo lexlt (g xs p0) a0 p0 xs)
    (fun i => i.1) (p0, xs) _ (by exact Le.of ⟨rfl, rfl, rfl, rfl, trivial⟩ (upd_self hl)) ⟨rfl, hp, hok, rfl⟩ ?_
  rintro ⟨p, ys⟩ st ⟨rfl, hp', hok', hgo⟩
  dsimp only at *
  have fin : sdGo lexlt (g xs p0) a0 p ys = ys.set p (g xs p0) → ∀ m, Sub [(Str.ofString "newitem", .tup (g xs p0)), (Str.ofString "heap", .ref l), (Str.ofString "pos", .int p)] m →
      Then B A (envOf (fName (stmtAt 8)) (fScope (stmtAt 8)) L a cd) ((fBody (stmtAt 8)).drop 2) (fun f st => Q (retV f) st.σ) .next ⟨m, upd σ l (enc ys)⟩ := by
    intro e m hm
    refine B_cons (S_setItem (E_local hm.1 (E_local hm.2.1 (E_local hm.2.2.1 (set_list (upd_same _ _ _) (by omega) (by simp; omega) (B_nil ?_))))))
    rw [enc_set rfl, upd_upd, ← e, hgo]
    exact hQ
  refine T_cmp (E_local rfl (E_local rfl (gt_ii ⟨_, rfl, ?_⟩)))
  by_cases hlt : a0 < p
  · rw [if_pos (by simpa using hlt)]
    have e1 : ((p : Int) - 1) / 2 = (((p - 1) / 2 : Nat) : Int) := by omega
    refine B_cons (S_assign (E_bin (E_bin (E_local rfl (E_int (sub_ii (E_int (shr_i1 (by omega) (W1_store ?_)))))))))
    rw [e1]
    refine B_cons (S_assign (E_sub (E_local rfl (E_local rfl (item_list (upd_same _ _ _) (by simp; omega) (enc_place (i := (p - 1) / 2) (by omega) rfl) (W1_store ?_))))))
    refine B_cons (S_if (T_cmp (E_local rfl (E_local rfl (lt_tt hA.line (by rw [hok.get hp, hok'.get (by omega)]) ⟨_, rfl, ?_⟩)))))
    change if lexlt (g xs p0) (g ys ((p - 1) / 2)) = true then _ else _
    cases hc : lexlt (g xs p0) (g ys ((p - 1) / 2)) with
    | true =>
      rw [if_pos rfl]
      refine B_cons (S_setItem (E_local rfl (E_local rfl (E_local rfl (set_list (upd_same _ _ _) (by omega) (by simp; omega) ?_)))))
      rw [enc_set rfl, upd_upd]
      refine B_cons (S_assign (E_local rfl (W1_store (B_cons (S_cont ?_)))))
      refine ⟨((p - 1) / 2, ys.set p (g ys ((p - 1) / 2))), _, by show (p - 1) / 2 < p; omega, by exact Le.of ⟨rfl, rfl, rfl, rfl, trivial⟩ rfl, rfl, ?_, ?_, ?_⟩
      · simp; omega
      · exact hok'.set (hok'.get (by omega))
      · rw [← hgo]
        conv => rhs; rw [sdGo]
        rw [dif_pos hlt, if_pos hc]
    | false =>
      rw [if_neg (by simp)]
      refine B_nil (B_cons (S_brk ?_))
      refine fin ?_ _ ⟨rfl, rfl, rfl, trivial⟩
      rw [sdGo, dif_pos hlt, if_neg (by rw [hc]; simp)]
  · rw [if_neg (by simpa using hlt)]
    refine fin ?_ _ ⟨rfl, rfl, rfl, trivial⟩
    rw [sdGo, dif_neg hlt]

theorem siftdownMax_ok {B : Bs} (BO : BOk B) {a : Addr} (D : DefN B 10 a) : FnOK B 1 a (C_sd gtT) := by
  refine fn_intro BO D ?_ (fun pm cd doc vs hv => by obtain ⟨_, _, _, rfl⟩ := len3 hv; rfl) (fun vs hv => by obtain ⟨_, _, _, rfl⟩ := len3 hv; exact locs (by rfl))
  rintro A cd L Vs σ Q hA ⟨l, a0, p0, xs, rfl, hl, hok, hp, hQ⟩
  refine ⟨rfl, ?_⟩
  refine B_cons (S_assign (E_sub (E_local rfl (E_local rfl (item_list hl (by simp; omega) (enc_place hp rfl) (W1_store ?_))))))
  refine B_cons ?_
  refine S_while (ι := Nat × List T) (fun i st => st = ⟨[(Str.ofString "newitem", .tup (g xs p0)), (Str.ofString "heap", .ref l), (Str.ofString "startpos", .int a0), (Str.ofString "pos", .int i.1)], upd σ l (enc i.2)⟩ ∧ i.1 < i.2.length ∧ okT i.2 ∧ sdGo gtT (g xs p0) a0 i.1 i.2 = sdGo gtT (g xs p0) a0 p0 xs)
    (fun i => i.1) (p0, xs) _ (by exact Le.of ⟨rfl, rfl, rfl, rfl, trivial⟩ (upd_self hl)) ⟨rfl, hp, hok, rfl⟩ ?_
  rintro ⟨p, ys⟩ st ⟨rfl, hp', hok', hgo⟩
  dsimp only at *
  have fin : sdGo gtT (g xs p0) a0 p ys = ys.set p (g xs p0) → ∀ m, Sub [(Str.ofString "newitem", .tup (g xs p0)), (Str.ofString "heap", .ref l), (Str.ofString "pos", .int p)] m →
      Then B A (envOf (fName (stmtAt 10)) (fScope (stmtAt 10)) L a cd) ((fBody (stmtAt 10)).drop 2) (fun f st => Q (retV f) st.σ) .next ⟨m, upd σ l (enc ys)⟩ := by
    intro e m hm
    refine B_cons (S_setItem (E_local hm.1 (E_local hm.2.1 (E_local hm.2.2.1 (set_list (upd_same _ _ _) (by omega) (by simp; omega) (B_nil ?_))))))
    rw [enc_set rfl, upd_upd, ← e, hgo]
    exact hQ
  refine T_cmp (E_local rfl (E_local rfl (gt_ii ⟨_, rfl, ?_⟩)))
  by_cases hlt : a0 < p
  · rw [if_pos (by simpa using hlt)]
    have e1 : ((p : Int) - 1) / 2 = (((p - 1) / 2 : Nat) : Int) := by omega
    refine B_cons (S_assign (E_bin (E_bin (E_local rfl (E_int (sub_ii (E_int (shr_i1 (by omega) (W1_store ?_)))))))))
    rw [e1]
    refine B_cons (S_assign (E_sub (E_local rfl (E_local rfl (item_list (upd_same _ _ _) (by simp; omega) (enc_place (i := (p - 1) / 2) (by omega) rfl) (W1_store ?_))))))
    refine B_cons (S_if (T_cmp (E_local rfl (E_local rfl (lt_tt hA.line (by rw [hok.get hp, hok'.get (by omega)]) ⟨_, rfl, ?_⟩)))))
    change if gtT (g xs p0) (g ys ((p - 1) / 2)) = true then _ else _
    cases hc : gtT (g xs p0) (g ys ((p - 1) / 2)) with
    | true =>
      rw [if_pos rfl]
      refine B_cons (S_setItem (E_local rfl (E_local rfl (E_local rfl (set_list (upd_same _ _ _) (by omega) (by simp; omega) ?_)))))
      rw [enc_set rfl, upd_upd]
      refine B_cons (S_assign (E_local rfl (W1_store (B_cons (S_cont ?_)))))
      refine ⟨((p - 1) / 2, ys.set p (g ys ((p - 1) / 2))), _, by show (p - 1) / 2 < p; omega, by exact Le.of ⟨rfl, rfl, rfl, rfl, trivial⟩ rfl, rfl, ?_, ?_, ?_⟩
      · simp; omega
      · exact hok'.set (hok'.get (by omega))
      · rw [← hgo]
        conv => rhs; rw [sdGo]
        rw [dif_pos hlt, if_pos hc]
    | false =>
      rw [if_neg (by simp)]
      refine B_nil (B_cons (S_brk ?_))
      refine fin ?_ _ ⟨rfl, rfl, rfl, trivial⟩
      rw [sdGo, dif_pos hlt, if_neg (by rw [hc]; simp)]
  · rw [if_neg (by simpa using hlt)]
    refine fin ?_ _ ⟨rfl, rfl, rfl, trivial⟩
    rw [sdGo, dif_neg hlt]

theorem siftup_ok {B : Bs} (BO : BOk B) (G : MG B) (hsd : Fn B 1 (Str.ofString "_siftdown") (C_sd lexlt)) {a : Addr} (D : DefN B 9 a) : FnOK B 2 a (C_su lexlt) := by
  refine fn_intro BO D ?_ (fun pm cd doc vs hv => by obtain ⟨_, _, rfl⟩ := len2 hv; rfl) (fun vs hv => by obtain ⟨_, _, rfl⟩ := len2 hv; exact locs (by rfl))
  rintro A cd L Vs σ Q hA ⟨l, p0, xs, rfl, hl, hok, hp, hQ⟩
  refine ⟨rfl, ?_⟩
  refine B_cons (S_assign (E_built BO G.len bb_len (A_cons (E_local rfl (A_nil (len_l hl (W1_store ?_)))))))
  rw [List.length_map]
  refine B_cons (S_assign (E_local rfl (W1_store ?_)))
  refine B_cons (S_assign (E_sub (E_local rfl (E_local rfl (item_list hl (by simp; omega) (enc_place hp rfl) (W1_store ?_))))))
  refine B_cons (S_assign (E_bin (E_bin (E_int (E_local rfl (mul_ii (E_int (add_ii (W1_store ?_)))))))))
  refine B_cons ?_
  refine S_while (ι := Nat × List T) (fun i st => st = ⟨[(Str.ofString "childpos", .int (2 * (i.1 : Int) + 1)), (Str.ofString "newitem", .tup (g xs p0)), (Str.ofString "startpos", .int p0), (Str.ofString "endpos", .int xs.length), (Str.ofString "heap", .ref l), (Str.ofString "pos", .int i.1)], upd σ l (enc i.2)⟩
      ∧ i.1 < xs.length ∧ i.2.length = xs.length ∧ okT i.2 ∧ suGo lexlt xs.length i.1 i.2 = suGo lexlt xs.length p0 xs)
    (fun i => xs.length - i.1) (p0, xs) _ (by exact Le.of ⟨rfl, rfl, rfl, rfl, rfl, rfl, trivial⟩ (upd_self hl)) ⟨rfl, hp, rfl, hok, rfl⟩ ?_
  rintro ⟨p, ys⟩ st ⟨rfl, hp', hlen, hok', hgo⟩
  dsimp only at *
  refine T_cmp (E_local rfl (E_local rfl (lt_ii ⟨_, rfl, ?_⟩)))
  by_cases hlt : 2 * p + 1 < xs.length
  · rw [if_pos (by simp; omega)]
    have hc := child_lt (lt := lexlt) (xs := ys) hlt
    have hcc := child_cases (lt := lexlt) xs.length p ys
    -- behind the choice of a child
    have rest : ∀ m, Sub [(Str.ofString "childpos", .int (child lexlt xs.length p ys : Nat)), (Str.ofString "newitem", .tup (g xs p0)), (Str.ofString "startpos", .int p0), (Str.ofString "endpos", .int xs.length), (Str.ofString "heap", .ref l), (Str.ofString "pos", .int p)] m →
        WB B A (envOf (fName (stmtAt 9)) (fScope (stmtAt 9)) L a cd) ((inner (fBody (stmtAt 9))[4]?).drop 2) ⟨m, upd σ l (enc ys)⟩ (LoopQ (fun i st => st = ⟨[(Str.ofString "childpos", .int (2 * (i.1 : Int) + 1)), (Str.ofString "newitem", .tup (g xs p0)), (Str.ofString "startpos", .int p0), (Str.ofString "endpos", .int xs.length), (Str.ofString "heap", .ref l), (Str.ofString "pos", .int i.1)], upd σ l (enc i.2)⟩
      ∧ i.1 < xs.length ∧ i.2.length = xs.length ∧ okT i.2 ∧ suGo lexlt xs.length i.1 i.2 = suGo lexlt xs.length p0 xs) (fun i : Nat × List T => xs.length - i.1) (p, ys) (Then B A (envOf (fName (stmtAt 9)) (fScope (stmtAt 9)) L a cd) ((fBody (stmtAt 9)).drop 5) fun f st => Q (retV f) st.σ)) := by
      intro m hm
      generalize hC : child lexlt xs.length p ys = c at *
      refine B_cons (S_setItem (E_sub (E_local hm.2.2.2.2.1 (E_local hm.1 (item_list (upd_same _ _ _) (by simp; omega) (enc_place (i := c) (by omega) rfl) (E_local hm.2.2.2.2.1 (E_local hm.2.2.2.2.2.1 (set_list (upd_same _ _ _) (by omega) (by simp; omega) ?_))))))))
      rw [enc_set rfl, upd_upd]
      refine B_cons (S_assign (E_local hm.1 (W1_store ?_)))
      refine B_cons (S_assign (E_bin (E_bin (E_int (E_local rfl (mul_ii (E_int (add_ii (W1_store ?_)))))))))
      refine B_nil ?_
      refine ⟨(c, ys.set p (g ys c)), _, by show xs.length - c < xs.length - p; rcases hcc with e | e <;> omega, by exact Le.of ⟨rfl, hm.2.1, hm.2.2.1, hm.2.2.2.1, hm.2.2.2.2.1, rfl, trivial⟩ rfl, rfl, hc, by simpa using hlen, hok'.set (hok'.get (by omega)), ?_⟩
      rw [← hgo]
      conv => rhs; rw [suGo]
      rw [dif_pos hlt, hC]
    refine B_cons (S_assign (E_bin (E_local rfl (E_int (add_ii (W1_store ?_))))))
    refine B_cons (S_if (T_and (T_cmp (E_local rfl (E_local rfl (lt_ii ⟨_, rfl, ?_⟩))))))
    by_cases hr : 2 * p + 2 < xs.length
    · rw [if_pos (by simp; omega)]
      have e2 : 2 * (p : Int) + 1 = ((2 * p + 1 : Nat) : Int) := by omega
      have e3 : 2 * (p : Int) + 1 + 1 = ((2 * p + 2 : Nat) : Int) := by omega
      refine T_and (T_not (T_cmp (E_sub (E_local rfl (E_local rfl (item_list (upd_same _ _ _) (by simp; omega) (enc_place (i := 2 * p + 1) (by omega) (by omega)) (E_sub (E_local rfl (E_local rfl (item_list (upd_same _ _ _) (by simp; omega) (enc_place (i := 2 * p + 2) (by omega) (by omega)) (lt_tt hA.line (by rw [hok'.get (by omega), hok'.get (by omega)]) ⟨_, rfl, ?_⟩))))))))))) 
      change if (!lexlt (g ys (2 * p + 1)) (g ys (2 * p + 2))) = true then _ else _
      cases hx : lexlt (g ys (2 * p + 1)) (g ys (2 * p + 2)) with
      | false =>
        rw [if_pos (by rfl)]
        refine T_and_nil ?_
        rw [if_pos (by rfl)]
        have eC : child lexlt xs.length p ys = 2 * p + 2 := by unfold child; rw [if_pos ⟨hr, hx⟩]
        refine B_cons (S_assign (E_local rfl (W1_store (B_nil ?_))))
        refine rest _ ⟨?_, rfl, rfl, rfl, rfl, rfl, trivial⟩
        rw [eC]
        show some _ = some _
        rw [e3]
      | true =>
        rw [if_neg (by simp), if_neg (by simp)]
        have eC : child lexlt xs.length p ys = 2 * p + 1 := by unfold child; rw [if_neg (by rw [hx]; simp)]
        refine B_nil ?_
        refine rest _ ⟨?_, rfl, rfl, rfl, rfl, rfl, trivial⟩
        rw [eC]
        show some _ = some _
        rw [e2]
    · rw [if_neg (by simp; omega), if_neg (by simp)]
      have eC : child lexlt xs.length p ys = 2 * p + 1 := by unfold child; rw [if_neg (fun z => hr z.1)]
      refine B_nil ?_
      refine rest _ ⟨?_, rfl, rfl, rfl, rfl, rfl, trivial⟩
      rw [eC]
      show some _ = some _
      congr 2
  · rw [if_neg (by simp; omega)]
    refine B_cons (S_setItem (E_local rfl (E_local rfl (E_local rfl (set_list (upd_same _ _ _) (by omega) (by simp; omega) ?_)))))
    rw [enc_set rfl, upd_upd]
    have e : suGo lexlt xs.length p ys = (p, ys) := by rw [suGo, dif_neg hlt]
    refine B_cons (S_expr (E_call BO hA hsd (A_cons (E_local rfl (A_cons (E_local rfl (A_cons (E_local rfl (A_nil ?_)))))))))
    refine ⟨l, p0, p, ys.set p (g xs p0), rfl, upd_same _ _ _, hok'.set (hok.get hp), by simp; omega, rfl, B_nil ?_⟩
    rw [upd_upd, g_self (by omega)]
    have e2 : su lexlt xs p0 = sdGo lexlt (g xs p0) p0 p (ys.set p (g xs p0)) := by unfold su; rw [← hgo, e]
    rw [← e2]
    exact hQ

theorem siftupMax_ok {B : Bs} (BO : BOk B) (G : MG B) (hsd : Fn B 1 (Str.ofString "_siftdown_max") (C_sd gtT)) {a : Addr} (D : DefN B 11 a) : FnOK B 2 a (C_su gtT) := by
  refine fn_intro BO D ?_ (fun pm cd doc vs hv => by obtain ⟨_, _, rfl⟩ := len2 hv; rfl) (fun vs hv => by obtain ⟨_, _, rfl⟩ := len2 hv; exact locs (by rfl))
  rintro A cd L Vs σ Q hA ⟨l, p0, xs, rfl, hl, hok, hp, hQ⟩
  refine ⟨rfl, ?_⟩
  refine B_cons (S_assign (E_built BO G.len bb_len (A_cons (E_local rfl (A_nil (len_l hl (W1_store ?_)))))))
  rw [List.length_map]
  refine B_cons (S_assign (E_local rfl (W1_store ?_)))
  refine B_cons (S_assign (E_sub (E_local rfl (E_local rfl (item_list hl (by simp; omega) (enc_place hp rfl) (W1_store ?_))))))
  refine B_cons (S_assign (E_bin (E_bin (E_int (E_local rfl (mul_ii (E_int (add_ii (W1_store ?_)))))))))
  refine B_cons ?_
  refine S_while (ι := Nat × List T) (fun i st => st = ⟨[(Str.ofString "childpos", .int (2 * (i.1 : Int) + 1)), (Str.ofString "newitem", .tup (g xs p0)), (Str.ofString "startpos", .int p0), (Str.ofString "endpos", .int xs.length), (Str.ofString "heap", .ref l), (Str.ofString "pos", .int i.1)], upd σ l (enc i.2)⟩
      ∧ i.1 < xs.length ∧ i.2.length = xs.length ∧ okT i.2 ∧ suGo gtT xs.length i.1 i.2 = suGo gtT xs.length p0 xs)
    (fun i => xs.length - i.1) (p0, xs) _ (by exact Le.of ⟨rfl, rfl, rfl, rfl, rfl, rfl, trivial⟩ (upd_self hl)) ⟨rfl, hp, rfl, hok, rfl⟩ ?_
  rintro ⟨p, ys⟩ st ⟨rfl, hp', hlen, hok', hgo⟩
  dsimp only at *
  refine T_cmp (E_local rfl (E_local rfl (lt_ii ⟨_, rfl, ?_⟩)))
  by_cases hlt : 2 * p + 1 < xs.length
  · rw [if_pos (by simp; omega)]
    have hc := child_lt (lt := gtT) (xs := ys) hlt
    have hcc := child_cases (lt := gtT) xs.length p ys
    -- behind the choice of a child
    have rest : ∀ m, Sub [(Str.ofString "childpos", .int (child gtT xs.length p ys : Nat)), (Str.ofString "newitem", .tup (g xs p0)), (Str.ofString "startpos", .int p0), (Str.ofString "endpos", .int xs.length), (Str.ofString "heap", .ref l), (Str.ofString "pos", .int p)] m →
        WB B A (envOf (fName (stmtAt 11)) (fScope (stmtAt 11)) L a cd) ((inner (fBody (stmtAt 11))[4]?).drop 2) ⟨m, upd σ l (enc ys)⟩ (LoopQ (fun i st => st = ⟨[(Str.ofString "childpos", .int (2 * (i.1 : Int) + 1)), (Str.ofString "newitem", .tup (g xs p0)), (Str.ofString "startpos", .int p0), (Str.ofString "endpos", .int xs.length), (Str.ofString "heap", .ref l), (Str.ofString "pos", .int i.1)], upd σ l (enc i.2)⟩
      ∧ i.1 < xs.length ∧ i.2.length = xs.length ∧ okT i.2 ∧ suGo gtT xs.length i.1 i.2 = suGo gtT xs.length p0 xs) (fun i : Nat × List T => xs.length - i.1) (p, ys) (Then B A (envOf (fName (stmtAt 11)) (fScope (stmtAt 11)) L a cd) ((fBody (stmtAt 11)).drop 5) fun f st => Q (retV f) st.σ)) := by
      intro m hm
      generalize hC : child gtT xs.length p ys = c at *
      refine B_cons (S_setItem (E_sub (E_local hm.2.2.2.2.1 (E_local hm.1 (item_list (upd_same _ _ _) (by simp; omega) (enc_place (i := c) (by omega) rfl) (E_local hm.2.2.2.2.1 (E_local hm.2.2.2.2.2.1 (set_list (upd_same _ _ _) (by omega) (by simp; omega) ?_))))))))
      rw [enc_set rfl, upd_upd]
      refine B_cons (S_assign (E_local hm.1 (W1_store ?_)))
      refine B_cons (S_assign (E_bin (E_bin (E_int (E_local rfl (mul_ii (E_int (add_ii (W1_store ?_)))))))))
      refine B_nil ?_
      refine ⟨(c, ys.set p (g ys c)), _, by show xs.length - c < xs.length - p; rcases hcc with e | e <;> omega, by exact Le.of ⟨rfl, hm.2.1, hm.2.2.1, hm.2.2.2.1, hm.2.2.2.2.1, rfl, trivial⟩ rfl, rfl, hc, by simpa using hlen, hok'.set (hok'.get (by omega)), ?_⟩
      rw [← hgo]
      conv => rhs; rw [suGo]
      rw [dif_pos hlt, hC]
    refine B_cons (S_assign (E_bin (E_local rfl (E_int (add_ii (W1_store ?_))))))
    refine B_cons (S_if (T_and (T_cmp (E_local rfl (E_local rfl (lt_ii ⟨_, rfl, ?_⟩))))))
    by_cases hr : 2 * p + 2 < xs.length
    · rw [if_pos (by simp; omega)]
      have e2 : 2 * (p : Int) + 1 = ((2 * p + 1 : Nat) : Int) := by omega
      have e3 : 2 * (p : Int) + 1 + 1 = ((2 * p + 2 : Nat) : Int) := by omega
      refine T_and (T_not (T_cmp (E_sub (E_local rfl (E_local rfl (item_list (upd_same _ _ _) (by simp; omega) (enc_place (i := 2 * p + 2) (by omega) (by omega)) (E_sub (E_local rfl (E_local rfl (item_list (upd_same _ _ _) (by simp; omega) (enc_place (i := 2 * p + 1) (by omega) (by omega)) (lt_tt hA.line (by rw [hok'.get (by omega), hok'.get (by omega)]) ⟨_, rfl, ?_⟩))))))))))) 
      change if (!gtT (g ys (2 * p + 1)) (g ys (2 * p + 2))) = true then _ else _
      cases hx : gtT (g ys (2 * p + 1)) (g ys (2 * p + 2)) with
      | false =>
        rw [if_pos (by rfl)]
        refine T_and_nil ?_
        rw [if_pos (by rfl)]
        have eC : child gtT xs.length p ys = 2 * p + 2 := by unfold child; rw [if_pos ⟨hr, hx⟩]
        refine B_cons (S_assign (E_local rfl (W1_store (B_nil ?_))))
        refine rest _ ⟨?_, rfl, rfl, rfl, rfl, rfl, trivial⟩
        rw [eC]
        show some _ = some _
        rw [e3]
      | true =>
        rw [if_neg (by simp), if_neg (by simp)]
        have eC : child gtT xs.length p ys = 2 * p + 1 := by unfold child; rw [if_neg (by rw [hx]; simp)]
        refine B_nil ?_
        refine rest _ ⟨?_, rfl, rfl, rfl, rfl, rfl, trivial⟩
        rw [eC]
        show some _ = some _
        rw [e2]
    · rw [if_neg (by simp; omega), if_neg (by simp)]
      have eC : child gtT xs.length p ys = 2 * p + 1 := by unfold child; rw [if_neg (fun z => hr z.1)]
      refine B_nil ?_
      refine rest _ ⟨?_, rfl, rfl, rfl, rfl, rfl, trivial⟩
      rw [eC]
      show some _ = some _
      congr 2
  · rw [if_neg (by simp; omega)]
    refine B_cons (S_setItem (E_local rfl (E_local rfl (E_local rfl (set_list (upd_same _ _ _) (by omega) (by simp; omega) ?_)))))
    rw [enc_set rfl, upd_upd]
    have e : suGo gtT xs.length p ys = (p, ys) := by rw [suGo, dif_neg hlt]
    refine B_cons (S_expr (E_call BO hA hsd (A_cons (E_local rfl (A_cons (E_local rfl (A_cons (E_local rfl (A_nil ?_)))))))))
    refine ⟨l, p0, p, ys.set p (g xs p0), rfl, upd_same _ _ _, hok'.set (hok.get hp), by simp; omega, rfl, B_nil ?_⟩
    rw [upd_upd, g_self (by omega)]
    have e2 : su gtT xs p0 = sdGo gtT (g xs p0) p0 p (ys.set p (g xs p0)) := by unfold su; rw [← hgo, e]
    rw [← e2]
    exact hQ
end Mine
end

/-! ## F2 -/
section
set_option maxRecDepth 100000
namespace Mine
open PySem PySem.W PySem.Calls PySem.SeqAt PyProof.Rows

theorem suGo_length {lt : T → T → Bool} (n p : Nat) (xs : List T) : (suGo lt n p xs).2.length = xs.length := by
  induction hk : n - p using Nat.strongRecOn generalizing p xs with
  | ind k ih =>
    rw [suGo]
    split
    · rename_i h
      have := child_lt (lt := lt) (xs := xs) h
      rw [ih _ (by rcases child_cases (lt := lt) n p xs with e | e <;> omega) _ _ rfl]
      simp
    · rfl
theorem suGo_okT {lt : T → T → Bool} (n p : Nat) (xs : List T) (hn : xs.length = n) (h : okT xs) : okT (suGo lt n p xs).2 := by
  induction hk : n - p using Nat.strongRecOn generalizing p xs with
  | ind k ih =>
    rw [suGo]
    split
    · rename_i hc
      have := child_lt (lt := lt) (xs := xs) hc
      exact ih _ (by rcases child_cases (lt := lt) n p xs with e | e <;> omega) _ _ (by simpa using hn) (h.set (h.get (by omega))) rfl
    · exact h
theorem sdGo_okT {lt : T → T → Bool} (x : T) (a p : Nat) (xs : List T) (hp : p < xs.length) (hx : x.length = 3) (h : okT xs) : okT (sdGo lt x a p xs) := (h.set hx).perm (sdGo_perm x a p xs hp)
theorem suGo_lt {lt : T → T → Bool} (n p : Nat) (xs : List T) (hp : p < n) : (suGo lt n p xs).1 < n := by
  induction hk : n - p using Nat.strongRecOn generalizing p xs with
  | ind k ih =>
    rw [suGo]
    split
    · rename_i hc
      have := child_lt (lt := lt) (xs := xs) hc
      exact ih _ (by rcases child_cases (lt := lt) n p xs with e | e <;> omega) _ _ this rfl
    · exact hp
theorem su_okT {lt : T → T → Bool} {xs : List T} {p : Nat} (h : okT xs) (hp : p < xs.length) : okT (su lt xs p) := by
  unfold su
  refine sdGo_okT _ _ _ _ ?_ (h.get hp) ((suGo_okT _ _ _ rfl h).set (h.get hp))
  rw [List.length_set, suGo_length]
  exact suGo_lt _ _ _ hp

theorem set0 {y x : T} {rest : List T} : (List.map V.tup (y :: rest)).set (Int.toNat 0) (V.tup x) = List.map V.tup (x :: rest) := rfl
theorem push_len {xs : List T} {x : T} : g (xs ++ [x]) xs.length = x := by simp [g]
theorem heappush_ok {B : Bs} (BO : BOk B) (G : MG B) (hsd : Fn B 1 (Str.ofString "_siftdown") (C_sd lexlt)) {a : Addr} (D : DefN B 0 a) : FnOK B 2 a (C_push lexlt) := by
  refine fn_intro BO D ?_ (fun pm cd doc vs hv => by obtain ⟨_, _, rfl⟩ := len2 hv; rfl) (fun vs hv => by obtain ⟨_, _, rfl⟩ := len2 hv; exact locs (by rfl))
  rintro A cd L Vs σ Q hA ⟨l, xs, x, rfl, hl, hok, hx, hh, hz, hQ⟩
  refine ⟨rfl, ?_⟩
  refine B_cons (S_expr (E_append (E_local rfl ⟨l, rfl, ⟨_, hl⟩, E_local rfl ⟨_, hl, by simp; omega, rfl, ?_⟩⟩)))
  have e : xs.map V.tup ++ [V.tup x] = (xs ++ [x]).map V.tup := by simp
  rw [e]
  refine B_cons (S_expr (E_call BO hA hsd (A_cons (E_local rfl (A_cons (E_int (A_cons (E_bin (E_built BO G.len bb_len (A_cons (E_local rfl (A_nil (len_l (upd_same _ _ _) (E_int (sub_ii (A_nil ?_))))))))))))))))
  obtain ⟨q1, q2⟩ := push_spec lexTot (x := x) hh
  refine ⟨l, 0, xs.length, xs ++ [x], ?_, upd_same _ _ _, ?_, by simp, rfl, B_nil ?_⟩
  · simp
  · intro t ht
    rcases List.mem_append.mp ht with q | q
    · exact hok t q
    · rw [List.mem_singleton.mp q]; exact hx
  · rw [upd_upd, push_len]
    exact hQ _ (q1.trans List.perm_append_comm) q2

theorem heappop_ok {B : Bs} (BO : BOk B) (hsu : Fn B 2 (Str.ofString "_siftup") (C_su lexlt)) {a : Addr} (D : DefN B 1 a) : FnOK B 3 a (C_pop lexlt) := by
  refine fn_intro BO D ?_ (fun pm cd doc vs hv => by obtain ⟨_, rfl⟩ := len1 hv; rfl) (fun vs hv => by obtain ⟨_, rfl⟩ := len1 hv; exact locs (by rfl))
  rintro A cd L Vs σ Q hA ⟨l, xs, rfl, hl, hok, hh, hne, hQ⟩
  refine ⟨rfl, ?_⟩
  obtain ⟨ws, last, rfl⟩ : ∃ ws last, xs = ws ++ [last] := ⟨xs.dropLast, xs.getLast hne, (List.dropLast_concat_getLast hne).symm⟩
  have hhw : IsHeap lexlt ws := by have := heap_init hh; simpa using this
  refine B_cons (S_assign (E_pop (E_local rfl ⟨l, ws.map V.tup, .tup last, rfl, by dsimp only; rw [hl]; simp [enc], W1_store ?_⟩)))
  cases ws with
  | nil =>
    refine B_cons (S_if (T_val (E_local rfl (truthy_l (upd_same _ _ _) ?_))))
    rw [if_neg (by simp)]
    refine B_nil (B_cons (S_ret (E_local rfl ?_)))
    exact hQ last [] (List.Perm.refl _) heap_nil (fun y hy => by simp at hy; subst hy; exact le_refl lexTot _)
  | cons y rest =>
    refine B_cons (S_if (T_val (E_local rfl (truthy_l (upd_same _ _ _) ?_))))
    rw [if_pos (by simp)]
    refine B_cons (S_assign (E_sub (E_local rfl (E_int (item_list (upd_same _ _ _) (by simp <;> omega) (enc_place (i := 0) (by simp) rfl) (W1_store ?_))))))
    refine B_cons (S_setItem (E_local rfl (E_local rfl (E_int (set_list (upd_same _ _ _) (by omega) (by simp <;> omega) ?_)))))
    rw [set0, upd_upd]
    refine B_cons (S_expr (E_call BO hA hsu (A_cons (E_local rfl (A_cons (E_int (A_nil ?_)))))))
    have hy : ∀ z ∈ y :: rest ++ [last], le lexlt y z := heap_head lexTot (x := y) (xs := rest ++ [last]) hh
    obtain ⟨q1, q2⟩ := repl_spec lexTot (x := last) hhw
    refine ⟨l, 0, last :: rest, rfl, upd_same _ _ _, ?_, by simp, rfl, ?_⟩
    · intro t ht
      refine hok t ?_
      cases ht with
      | head => exact List.mem_append_right _ (.head _)
      | tail _ ht => exact List.mem_append_left _ (.tail _ ht)
    · rw [upd_upd]
      refine B_cons (S_ret (E_local rfl ?_))
      refine hQ y (su lexlt (last :: rest) 0) ?_ q2 hy
      refine (List.Perm.cons y q1).trans ?_
      simp only [List.cons_append]
      exact List.Perm.cons y (List.perm_append_comm (l₁ := [last]))

theorem heappopMax_ok {B : Bs} (BO : BOk B) (hsu : Fn B 2 (Str.ofString "_siftup_max") (C_su gtT)) {a : Addr} (D : DefN B 5 a) : FnOK B 3 a (C_pop gtT) := by
  refine fn_intro BO D ?_ (fun pm cd doc vs hv => by obtain ⟨_, rfl⟩ := len1 hv; rfl) (fun vs hv => by obtain ⟨_, rfl⟩ := len1 hv; exact locs (by rfl))
  rintro A cd L Vs σ Q hA ⟨l, xs, rfl, hl, hok, hh, hne, hQ⟩
  refine ⟨rfl, ?_⟩
  obtain ⟨ws, last, rfl⟩ : ∃ ws last, xs = ws ++ [last] := ⟨xs.dropLast, xs.getLast hne, (List.dropLast_concat_getLast hne).symm⟩
  have hhw : IsHeap gtT ws := by have := heap_init hh; simpa using this
  refine B_cons (S_assign (E_pop (E_local rfl ⟨l, ws.map V.tup, .tup last, rfl, by dsimp only; rw [hl]; simp [enc], W1_store ?_⟩)))
  cases ws with
  | nil =>
    refine B_cons (S_if (T_val (E_local rfl (truthy_l (upd_same _ _ _) ?_))))
    rw [if_neg (by simp)]
    refine B_nil (B_cons (S_ret (E_local rfl ?_)))
    exact hQ last [] (List.Perm.refl _) heap_nil (fun y hy => by simp at hy; subst hy; exact le_refl gtTot _)
  | cons y rest =>
    refine B_cons (S_if (T_val (E_local rfl (truthy_l (upd_same _ _ _) ?_))))
    rw [if_pos (by simp)]
    refine B_cons (S_assign (E_sub (E_local rfl (E_int (item_list (upd_same _ _ _) (by simp <;> omega) (enc_place (i := 0) (by simp) rfl) (W1_store ?_))))))
    refine B_cons (S_setItem (E_local rfl (E_local rfl (E_int (set_list (upd_same _ _ _) (by omega) (by simp <;> omega) ?_)))))
    rw [set0, upd_upd]
    refine B_cons (S_expr (E_call BO hA hsu (A_cons (E_local rfl (A_cons (E_int (A_nil ?_)))))))
    have hy : ∀ z ∈ y :: rest ++ [last], le gtT y z := heap_head gtTot (x := y) (xs := rest ++ [last]) hh
    obtain ⟨q1, q2⟩ := repl_spec gtTot (x := last) hhw
    refine ⟨l, 0, last :: rest, rfl, upd_same _ _ _, ?_, by simp, rfl, ?_⟩
    · intro t ht
      refine hok t ?_
      cases ht with
      | head => exact List.mem_append_right _ (.head _)
      | tail _ ht => exact List.mem_append_left _ (.tail _ ht)
    · rw [upd_upd]
      refine B_cons (S_ret (E_local rfl ?_))
      refine hQ y (su gtT (last :: rest) 0) ?_ q2 hy
      refine (List.Perm.cons y q1).trans ?_
      simp only [List.cons_append]
      exact List.Perm.cons y (List.perm_append_comm (l₁ := [last]))

theorem heapreplace_ok {B : Bs} (BO : BOk B) (hsu : Fn B 2 (Str.ofString "_siftup") (C_su lexlt)) {a : Addr} (D : DefN B 2 a) : FnOK B 3 a (C_repl lexlt) := by
  refine fn_intro BO D ?_ (fun pm cd doc vs hv => by obtain ⟨_, _, rfl⟩ := len2 hv; rfl) (fun vs hv => by obtain ⟨_, _, rfl⟩ := len2 hv; exact locs (by rfl))
  rintro A cd L Vs σ Q hA ⟨l, xs, x, rfl, hl, hok, hx, hh, hne, hQ⟩
  refine ⟨rfl, ?_⟩
  cases xs with
  | nil => exact absurd rfl hne
  | cons y rest =>
    refine B_cons (S_assign (E_sub (E_local rfl (E_int (item_list hl (by simp <;> omega) (enc_place (i := 0) (by simp) rfl) (W1_store ?_))))))
    refine B_cons (S_setItem (E_local rfl (E_local rfl (E_int (set_list hl (by omega) (by simp <;> omega) ?_)))))
    rw [set0]
    refine B_cons (S_expr (E_call BO hA hsu (A_cons (E_local rfl (A_cons (E_int (A_nil ?_)))))))
    obtain ⟨q1, q2⟩ := repl_spec lexTot (x := x) hh
    refine ⟨l, 0, x :: rest, rfl, upd_same _ _ _, ?_, by simp, rfl, ?_⟩
    · intro t ht
      cases ht with
      | head => exact hx
      | tail _ ht => exact hok t (.tail _ ht)
    · rw [upd_upd]
      refine B_cons (S_ret (E_local rfl ?_))
      exact hQ y (su lexlt (x :: rest) 0) ((List.Perm.cons y q1).trans (List.Perm.swap x y rest)) q2 (heap_head lexTot hh) (.head _)

theorem heapreplaceMax_ok {B : Bs} (BO : BOk B) (hsu : Fn B 2 (Str.ofString "_siftup_max") (C_su gtT)) {a : Addr} (D : DefN B 6 a) : FnOK B 3 a (C_repl gtT) := by
  refine fn_intro BO D ?_ (fun pm cd doc vs hv => by obtain ⟨_, _, rfl⟩ := len2 hv; rfl) (fun vs hv => by obtain ⟨_, _, rfl⟩ := len2 hv; exact locs (by rfl))
  rintro A cd L Vs σ Q hA ⟨l, xs, x, rfl, hl, hok, hx, hh, hne, hQ⟩
  refine ⟨rfl, ?_⟩
  cases xs with
  | nil => exact absurd rfl hne
  | cons y rest =>
    refine B_cons (S_assign (E_sub (E_local rfl (E_int (item_list hl (by simp <;> omega) (enc_place (i := 0) (by simp) rfl) (W1_store ?_))))))
    refine B_cons (S_setItem (E_local rfl (E_local rfl (E_int (set_list hl (by omega) (by simp <;> omega) ?_)))))
    rw [set0]
    refine B_cons (S_expr (E_call BO hA hsu (A_cons (E_local rfl (A_cons (E_int (A_nil ?_)))))))
    obtain ⟨q1, q2⟩ := repl_spec gtTot (x := x) hh
    refine ⟨l, 0, x :: rest, rfl, upd_same _ _ _, ?_, by simp, rfl, ?_⟩
    · intro t ht
      cases ht with
      | head => exact hx
      | tail _ ht => exact hok t (.tail _ ht)
    · rw [upd_upd]
      refine B_cons (S_ret (E_local rfl ?_))
      exact hQ y (su gtT (x :: rest) 0) ((List.Perm.cons y q1).trans (List.Perm.swap x y rest)) q2 (heap_head gtTot hh) (.head _)

theorem heappushpop_ok {B : Bs} (BO : BOk B) (hsu : Fn B 2 (Str.ofString "_siftup") (C_su lexlt)) {a : Addr} (D : DefN B 3 a) : FnOK B 3 a (C_ppop lexlt) := by
  refine fn_intro BO D ?_ (fun pm cd doc vs hv => by obtain ⟨_, _, rfl⟩ := len2 hv; rfl) (fun vs hv => by obtain ⟨_, _, rfl⟩ := len2 hv; exact locs (by rfl))
  rintro A cd L Vs σ Q hA ⟨l, xs, x, rfl, hl, hok, hx, hh, hQ⟩
  refine ⟨rfl, ?_⟩
  refine B_cons (S_if (T_and (T_val (E_local rfl (truthy_l hl ?_)))))
  cases xs with
  | nil =>
    rw [if_neg (by simp), if_neg (by simp)]
    refine B_nil (B_cons (S_ret (E_local rfl ?_)))
    have := hQ x [] (List.Perm.refl _) hh (fun y hy => by simp at hy; subst hy; exact le_refl lexTot _)
    rwa [upd_self hl] at this
  | cons y rest =>
    rw [if_pos (by simp)]
    refine T_and (T_cmp (E_sub (E_local rfl (E_int (item_list hl (by simp <;> omega) (enc_place (i := 0) (by simp) rfl) (E_local rfl (lt_tt hA.line (by rw [hx]; exact hok.get (by simp)) ⟨_, rfl, ?_⟩)))))))
    change if lexlt y x = true then _ else _
    cases hc : lexlt y x with
    | false =>
      rw [if_neg (by simp), if_neg (by simp)]
      refine B_nil (B_cons (S_ret (E_local rfl ?_)))
      have := hQ x (y :: rest) (List.Perm.refl _) hh (fun z hz => by
        cases hz with
        | head => exact le_refl lexTot _
        | tail _ hz => exact le_trans lexTot (le_of_not lexTot hc) (heap_head lexTot hh z hz))
      rwa [upd_self hl] at this
    | true =>
      rw [if_pos rfl]
      refine T_and_nil ?_
      rw [if_pos rfl]
      refine B_cons (S_pair hA.hd (A_cons (E_sub (E_local rfl (E_int (item_list hl (by simp <;> omega) (enc_place (i := 0) (by simp) rfl) (A_cons (E_local rfl (A_nil ⟨_, _, rfl, A_name (W1_store (A_item (E_local rfl (E_int (set_list hl (by omega) (by simp <;> omega) ?_)))))⟩)))))))))
      rw [set0]
      refine B_cons (S_expr (E_call BO hA hsu (A_cons (E_local rfl (A_cons (E_int (A_nil ?_)))))))
      obtain ⟨q1, q2⟩ := repl_spec lexTot (x := x) hh
      refine ⟨l, 0, x :: rest, rfl, upd_same _ _ _, ?_, by simp, rfl, ?_⟩
      · intro t ht
        cases ht with
        | head => exact hx
        | tail _ ht => exact hok t (.tail _ ht)
      · rw [upd_upd]
        refine B_nil (B_cons (S_ret (E_local rfl ?_)))
        refine hQ y (su lexlt (x :: rest) 0) ((List.Perm.cons y q1).trans (List.Perm.swap x y rest)) q2 fun z hz => ?_
        cases hz with
        | head => exact le_of_lt lexTot hc
        | tail _ hz => exact heap_head lexTot hh z hz

theorem heapify_ok {B : Bs} (BO : BOk B) (G : MG B) (hsu : Fn B 2 (Str.ofString "_siftup") (C_su lexlt)) {a : Addr} (D : DefN B 4 a) : FnOK B 3 a (C_hify lexlt) := by
  refine fn_intro BO D ?_ (fun pm cd doc vs hv => by obtain ⟨_, rfl⟩ := len1 hv; rfl) (fun vs hv => by obtain ⟨_, rfl⟩ := len1 hv; exact locs (by rfl))
  rintro A cd L Vs σ Q hA ⟨l, xs, rfl, hl, hok, hz, hQ⟩
  refine ⟨rfl, ?_⟩
  refine B_cons (S_assign (E_built BO G.len bb_len (A_cons (E_local rfl (A_nil (len_l hl (W1_store ?_)))))))
  rw [List.length_map]
  have e : (xs.length : Int) / 2 = ((xs.length / 2 : Nat) : Int) := by omega
  refine B_cons (S_forRev BO G.range G.reversed hA.hd (E_bin (E_local rfl (E_int (div_ii ?_)))))
  rw [e]
  refine ⟨xs.length / 2, rfl, by omega, fun i st => ∃ ys, st = ⟨[(Str.ofString "x", .ref l)], upd σ l (enc ys)⟩ ∧ ys.length = xs.length ∧ okT ys ∧ hify lexlt (xs.length / 2 - i) ys = hify lexlt (xs.length / 2) xs, _, by exact Le.of ⟨rfl, trivial⟩ (upd_self hl), ⟨xs, rfl, rfl, hok, rfl⟩, ?_, ?_⟩
  · rintro i st hi ⟨ys, rfl, hlen, hok', hgo⟩
    refine A_name (W1_store ?_)
    have e2 : ((xs.length / 2 : Nat) : Int) - 1 - (i : Int) = ((xs.length / 2 - 1 - i : Nat) : Int) := by omega
    rw [e2]
    refine B_cons (S_expr (E_call BO hA hsu (A_cons (E_local rfl (A_cons (E_local rfl (A_nil ?_)))))))
    refine ⟨l, xs.length / 2 - 1 - i, ys, rfl, upd_same _ _ _, hok', by omega, rfl, B_nil ?_⟩
    rw [upd_upd]
    refine ⟨_, by exact Le.of ⟨rfl, trivial⟩ rfl, su lexlt ys (xs.length / 2 - 1 - i), rfl, ?_, ?_, ?_⟩
    · unfold su
      rw [sdGo_length]
      simp only [List.length_set]
      rw [suGo_length, hlen]
    · exact su_okT hok' (by omega)
    · have e3 : xs.length / 2 - i = (xs.length / 2 - 1 - i) + 1 := by omega
      rw [e3] at hgo
      have e4 : xs.length / 2 - (i + 1) = xs.length / 2 - 1 - i := by omega
      rw [e4, ← hgo]
      rfl
  · rintro st ⟨ys, rfl, hlen, hok', hgo⟩
    refine B_nil ?_
    have e5 : ys = hify lexlt (xs.length / 2) xs := by rw [← hgo]; simp [hify]
    obtain ⟨q1, q2⟩ := heapify_spec lexTot xs
    rw [e5]
    exact hQ _ q1 q2

theorem heapifyMax_ok {B : Bs} (BO : BOk B) (G : MG B) (hsu : Fn B 2 (Str.ofString "_siftup_max") (C_su gtT)) {a : Addr} (D : DefN B 7 a) : FnOK B 3 a (C_hify gtT) := by
  refine fn_intro BO D ?_ (fun pm cd doc vs hv => by obtain ⟨_, rfl⟩ := len1 hv; rfl) (fun vs hv => by obtain ⟨_, rfl⟩ := len1 hv; exact locs (by rfl))
  rintro A cd L Vs σ Q hA ⟨l, xs, rfl, hl, hok, hz, hQ⟩
  refine ⟨rfl, ?_⟩
  refine B_cons (S_assign (E_built BO G.len bb_len (A_cons (E_local rfl (A_nil (len_l hl (W1_store ?_)))))))
  rw [List.length_map]
  have e : (xs.length : Int) / 2 = ((xs.length / 2 : Nat) : Int) := by omega
  refine B_cons (S_forRev BO G.range G.reversed hA.hd (E_bin (E_local rfl (E_int (div_ii ?_)))))
  rw [e]
  refine ⟨xs.length / 2, rfl, by omega, fun i st => ∃ ys, st = ⟨[(Str.ofString "x", .ref l)], upd σ l (enc ys)⟩ ∧ ys.length = xs.length ∧ okT ys ∧ hify gtT (xs.length / 2 - i) ys = hify gtT (xs.length / 2) xs, _, by exact Le.of ⟨rfl, trivial⟩ (upd_self hl), ⟨xs, rfl, rfl, hok, rfl⟩, ?_, ?_⟩
  · rintro i st hi ⟨ys, rfl, hlen, hok', hgo⟩
    refine A_name (W1_store ?_)
    have e2 : ((xs.length / 2 : Nat) : Int) - 1 - (i : Int) = ((xs.length / 2 - 1 - i : Nat) : Int) := by omega
    rw [e2]
    refine B_cons (S_expr (E_call BO hA hsu (A_cons (E_local rfl (A_cons (E_local rfl (A_nil ?_)))))))
    refine ⟨l, xs.length / 2 - 1 - i, ys, rfl, upd_same _ _ _, hok', by omega, rfl, B_nil ?_⟩
    rw [upd_upd]
    refine ⟨_, by exact Le.of ⟨rfl, trivial⟩ rfl, su gtT ys (xs.length / 2 - 1 - i), rfl, ?_, ?_, ?_⟩
    · unfold su
      rw [sdGo_length]
      simp only [List.length_set]
      rw [suGo_length, hlen]
    · exact su_okT hok' (by omega)
    · have e3 : xs.length / 2 - i = (xs.length / 2 - 1 - i) + 1 := by omega
      rw [e3] at hgo
      have e4 : xs.length / 2 - (i + 1) = xs.length / 2 - 1 - i := by omega
      rw [e4, ← hgo]
      rfl
  · rintro st ⟨ys, rfl, hlen, hok', hgo⟩
    refine B_nil ?_
    have e5 : ys = hify gtT (xs.length / 2) xs := by rw [← hgo]; simp [hify]
    obtain ⟨q1, q2⟩ := heapify_spec gtTot xs
    rw [e5]
    exact hQ _ q1 q2
end Mine
end

/-! ## F3 -/
section
set_option maxRecDepth 100000
namespace Mine
open PySem PySem.W PySem.Calls PySem.SeqAt PyProof.Rows

theorem W.post {B : Bs} {A : Around} {L : Addr} {α β : Type} {R : Heap → α → β → Prop} {t : Sem α} {st : St} {Q : β → St → Prop} (h : W B A L R t st fun b st' => ∃ st'', Le st'' st' ∧ Q b st'') : W B A L R t st Q := fun K s r =>
  wpAny_mono (h K s r) (fun _ _ ⟨b, st', e1, e2, e3, st'', l, q⟩ => ⟨b, st'', e1, e2.weaken l, e3, q⟩) fun _ _ e => e
theorem upd_none {σ : Store} {a b : Addr} {o : AO} (h : upd σ b o a = none) : a ≠ b ∧ σ a = none := by
  by_cases e : a = b
  · subst e; rw [upd_same] at h; cases h
  · exact ⟨e, by rwa [upd_ne e] at h⟩
theorem none_ne {σ : Store} {a b : Addr} {o : AO} (h : σ a = none) (h' : σ b = some o) : a ≠ b := fun e => by rw [e, h'] at h; cases h
theorem Le.drop {m m' : List (Str × V)} {σ' σ : Store} (h : ∀ a o, σ' a = some o → σ a = some o) : Le ⟨[], σ'⟩ ⟨m, σ⟩ := ⟨fun x v e => by simp at e, h⟩

def workOf (x : Int) : T := [x / 3 % 6, 1 + x % 3, if x / 18 % 2 = 1 then x / 3 % 6 + x / 36 % 9 else x / 36]
def worksOf (ns : List Int) : List T := (ns.take 5 ++ [308, 130, 60]).map workOf
def C_works (B : Bs) : Con := fun Vs σ Q => ∃ (l : Addr) (us : List Value) (ns : List Int), Vs = [.ref l] ∧ B.hb.IsList l us.toArray ∧ IntsAre us ns ∧ ns.length ≤ 1000 ∧ ∀ a, σ a = none → Q (.ref a) (upd σ a (enc (worksOf ns)))

theorem law_works_ok {B : Bs} (BO : BOk B) {a : Addr} (D : DefN B 12 a) : FnOK B 1 a (C_works B) := by
  refine fn_intro BO D ?_ (fun pm cd doc vs hv => by obtain ⟨_, rfl⟩ := len1 hv; rfl) (fun vs hv => by obtain ⟨_, rfl⟩ := len1 hv; exact locs (by rfl))
  rintro A cd L Vs σ Q hA ⟨l, us, ns, rfl, hl, hi, hz, hQ⟩
  refine ⟨rfl, W.post ?_⟩
  refine B_cons (S_assign (E_list (A_nil ⟨by simp, fun w hw => W1_store ?_⟩)))
  refine B_cons <| S_forList hA.hd <| E_bin <| E_upto rfl hl hi (by omega) (by decide) fun b hb => E_list <| A_cons <| E_int <| A_cons <| E_int <| A_cons <| E_int <| A_nil ⟨by simp, fun c hc => cat_ll ((upd_ne (none_ne hc (upd_same _ _ _)).symm).trans (upd_same _ _ _)) (upd_same _ _ _) (by simp; omega) fun d hd' => ?_⟩
  dsimp only at hw hb hc hd'
  have hbw : b ≠ w := (upd_none hb).1
  have hcb : c ≠ b := (upd_none hc).1
  have hcw : c ≠ w := (upd_none (upd_none hc).2).1
  have hdc : d ≠ c := (upd_none hd').1
  have hdb : d ≠ b := (upd_none (upd_none hd').2).1
  have hdw : d ≠ w := (upd_none (upd_none (upd_none hd').2).2).1
  have e : ((ns.take (Int.toNat 5)).map V.int ++ [V.int 308, V.int 130, V.int 60]) = (ns.take 5 ++ [308, 130, 60]).map V.int := by simp
  have e0 : (List.take (Int.toNat 5) ns).map V.int ++ [V.int 308, V.int 130, V.int 60] = (ns.take 5 ++ [308, 130, 60]).map V.int := e
  rw [e0]
  generalize hxs : ns.take 5 ++ [308, 130, 60] = xs
  have hlen : xs.length ≤ 8 := by rw [← hxs]; simp; omega
  refine ⟨d, xs.map V.int, rfl, fun i st => st = ⟨[(Str.ofString "works", .ref w)], upd (upd σ d (.list (xs.map V.int))) w (enc ((xs.take i).map workOf))⟩, _, ?_, rfl, ?_, ?_, ?_⟩
  · refine Le.of' ⟨rfl, trivial⟩ fun a o q => ?_
    dsimp only
    by_cases h1 : a = w
    · subst h1
      rw [upd_same] at q
      cases q
      rw [upd_ne hdw.symm, upd_ne hcw.symm, upd_ne hbw.symm, upd_same]
      rfl
    · rw [upd_ne h1] at q
      by_cases h2 : a = d
      · subst h2
        rw [upd_same] at q ⊢
        exact q
      · rw [upd_ne h2] at q
        have h3 : a ≠ c := fun z => by subst z; rw [(upd_none (upd_none hc).2).2] at q; cases q
        have h4 : a ≠ b := fun z => by subst z; rw [(upd_none hb).2] at q; cases q
        rw [upd_ne h2, upd_ne h3, upd_ne h4, upd_ne h1]
        exact q
  · rintro i st rfl
    dsimp only
    rw [upd_ne hdw, upd_same]
  · rintro i x st hx rfl
    obtain ⟨y, hy, rfl⟩ : ∃ y, xs[i]? = some y ∧ x = V.int y := by
      rw [List.getElem?_map] at hx
      cases e1 : xs[i]? with
      | none => rw [e1] at hx; cases hx
      | some y => rw [e1] at hx; cases hx; exact ⟨y, rfl, rfl⟩
    refine A_name (W1_store ?_)
    refine B_cons (S_assign (E_bin (E_bin (E_local rfl (E_int (div_ii (E_int (mod_ii (W1_store ?_)))))))))
    refine B_cons (S_assign (E_bin (E_local rfl (E_int (div_ii (W1_store ?_))))))
    refine B_cons <| S_if <| T_cmp <| E_bin <| E_bin <| E_local rfl <| E_int <| div_ii <| E_int <| mod_ii <| E_int <| eq_ii ⟨_, rfl, ?_⟩
    have step : ∀ m, Sub [(Str.ofString "works", .ref w), (Str.ofString "come", .int (y / 3 % 6)), (Str.ofString "x", .int y), (Str.ofString "due", .int (if y / 18 % 2 = 1 then y / 3 % 6 + y / 36 % 9 else y / 36))] m →
        WB B A (envOf (fName (stmtAt 12)) (fScope (stmtAt 12)) L a cd) ((inner (fBody (stmtAt 12))[1]?).drop 3) ⟨m, upd (upd σ d (.list (xs.map V.int))) w (enc ((xs.take i).map workOf))⟩ (ForQ (fun i st => st = ⟨[(Str.ofString "works", .ref w)], upd (upd σ d (.list (xs.map V.int))) w (enc ((xs.take i).map workOf))⟩) i
          (Then B A (envOf (fName (stmtAt 12)) (fScope (stmtAt 12)) L a cd) ((fBody (stmtAt 12)).drop 2) fun b st' => ∃ st'', Le st'' st' ∧ Q (retV b) st''.σ)) := by
      intro m hm
      refine B_cons <| S_expr <| E_append <| E_local hm.1 ⟨w, rfl, ⟨_, upd_same _ _ _⟩, E_tuple <| A_cons <| E_local hm.2.1 <| A_cons <| E_bin <| E_int <| E_bin <| E_local hm.2.2.1 <| E_int <| mod_ii <| add_ii <| A_cons <| E_local hm.2.2.2.1 <| A_nil ⟨[_, _, _], rfl, by simp, _, upd_same _ _ _, ?_, rfl, B_nil ?_⟩⟩
      · simp
        omega
      · refine ⟨⟨[(Str.ofString "works", .ref w)], upd (upd σ d (.list (xs.map V.int))) w (enc ((xs.take (i + 1)).map workOf))⟩, Le.of ⟨hm.1, trivial⟩ ?_, rfl⟩
        dsimp only
        rw [upd_upd]
        congr 2
        rw [List.take_add_one, hy]
        simp [workOf]
    by_cases hc : y / 18 % 2 = 1
    · rw [if_pos (by simpa using hc)]
      refine B_cons <| S_assign <| E_bin <| E_local rfl <| E_bin <| E_local rfl <| E_int <| mod_ii <| add_ii <| W1_store <| B_nil ?_
      refine step _ ⟨rfl, rfl, rfl, ?_, trivial⟩
      rw [if_pos hc]
      rfl
    · rw [if_neg (by simpa using hc)]
      refine B_nil (step _ ⟨rfl, rfl, rfl, ?_, trivial⟩)
      rw [if_neg hc]
      rfl
  · rintro st rfl
    refine B_cons (S_ret (E_local rfl ?_))
    refine ⟨⟨[], upd σ w (enc (worksOf ns))⟩, Le.drop (m' := []) fun a o q => ?_, hQ w hw⟩
    have e2 : (xs.take (xs.map V.int).length).map workOf = worksOf ns := by
      rw [List.length_map, List.take_length]
      unfold worksOf
      rw [hxs]
    rw [e2]
    by_cases h1 : a = w
    · subst h1; rw [upd_same] at q ⊢; exact q
    · rw [upd_ne h1] at q ⊢
      have h2 : a ≠ d := fun z => by subst z; rw [(upd_none (upd_none (upd_none hd').2).2).2] at q; cases q
      rw [upd_ne h2]
      exact q
end Mine
end

/-! ## F4 -/
section
set_option maxRecDepth 100000
namespace Mine
open PySem PySem.W PySem.Calls PySem.SeqAt PyProof.Rows

theorem Ok.line64 {k : Nat} {A : Around} (h : Ok k A) : A.units + 64 < cLine := by have := h.un; show A.units + 64 < 9900; omega
theorem Ok.line65 {k : Nat} {A : Around} (h : Ok k A) : A.units + 65 < cLine := by have := h.un; show A.units + 65 < 9900; omega
theorem T_neNil {B : Bs} {A : Around} {env : Env} {st : St} {l : Expr} {p pos : Pos} {Q : Bool → St → Prop} (hA : A.units + 64 < cLine)
    (h : WE B A env l st fun v st₁ => ∃ a xs, v = .ref a ∧ st₁.σ a = some (.list xs) ∧ (∀ x ∈ xs, flat x = true) ∧ Q (!xs.isEmpty) st₁)
    (hm : behindInMarks .NotEq (.List [] p) = false := by with_unfolding_all rfl) : WT B A env (.Compare l [.NotEq] [.List [] p] pos) st Q := by
  refine W.post (T_cmp ?_ hm)
  refine W.mono h ?_
  rintro v st₁ ⟨a, xs, rfl, hl, hf, hq⟩
  refine E_list <| A_nil ⟨by simp, fun b hb => ne_nil hA ((upd_ne (none_ne hb hl).symm).trans hl) (upd_same _ _ _) hf ⟨_, rfl, st₁, ⟨fun _ _ e => e, fun c o q => ?_⟩, hq⟩⟩
  dsimp only
  rw [upd_ne (fun z => by subst z; rw [hb] at q; cases q)]
  exact q
theorem T_eqNil {B : Bs} {A : Around} {env : Env} {st : St} {l : Expr} {p pos : Pos} {Q : Bool → St → Prop} (hA : A.units + 64 < cLine)
    (h : WE B A env l st fun v st₁ => ∃ a xs, v = .ref a ∧ st₁.σ a = some (.list xs) ∧ (∀ x ∈ xs, flat x = true) ∧ Q xs.isEmpty st₁)
    (hm : behindInMarks .Eq (.List [] p) = false := by with_unfolding_all rfl) : WT B A env (.Compare l [.Eq] [.List [] p] pos) st Q := by
  refine W.post (T_cmp ?_ hm)
  refine W.mono h ?_
  rintro v st₁ ⟨a, xs, rfl, hl, hf, hq⟩
  refine E_list <| A_nil ⟨by simp, fun b hb => eq_nil hA ((upd_ne (none_ne hb hl).symm).trans hl) (upd_same _ _ _) hf ⟨_, rfl, st₁, ⟨fun _ _ e => e, fun c o q => ?_⟩, hq⟩⟩
  dsimp only
  rw [upd_ne (fun z => by subst z; rw [hb] at q; cases q)]
  exact q
theorem flat_enc {xs : List T} : ∀ x ∈ xs.map V.tup, flat x = true := fun x hx => by
  obtain ⟨t, _, rfl⟩ := List.mem_map.mp hx
  rfl
theorem empty_enc (xs : List T) : (xs.map V.tup).isEmpty = xs.isEmpty := by cases xs <;> rfl

noncomputable def ltB (b : Bool) : T → T → Bool := if b = true then gtT else lexlt
theorem totB (b : Bool) : Tot (ltB b) := by cases b; exact lexTot; exact gtTot
def C_laid : Con := fun Vs σ Q => ∃ (l : Addr) (xs : List T) (x : T) (b : Bool), Vs = [.ref l, .tup x, .bool b] ∧ σ l = some (enc xs) ∧ okT xs ∧ x.length = 3 ∧ IsHeap (ltB b) xs ∧ xs.length ≤ 1000 ∧ ∀ ys, ys.Perm (x :: xs) → IsHeap (ltB b) ys → Q .none (upd σ l (enc ys))
def C_first : Con := fun Vs σ Q => ∃ (l : Addr) (xs : List T) (x : T) (b : Bool), Vs = [.ref l, .tup x, .bool b] ∧ σ l = some (enc xs) ∧ okT xs ∧ x.length = 3 ∧ IsHeap (ltB b) xs ∧ xs.length ≤ 1000 ∧ ∀ r ys, (r :: ys).Perm (x :: xs) → IsHeap (ltB b) ys → (∀ y ∈ x :: xs, le (ltB b) r y) → Q (.tup r) (upd σ l (enc ys))
def C_taken : Con := fun Vs σ Q => ∃ (l n : Addr) (xs ns : List T) (b : Bool), Vs = [.ref l, .ref n, .bool b] ∧ l ≠ n ∧ σ l = some (enc xs) ∧ σ n = some (enc ns) ∧ okT xs ∧ okT ns ∧ IsHeap (ltB b) xs ∧ xs ++ ns ≠ [] ∧ xs.length + ns.length ≤ 500 ∧
  ∀ r ys ms, (r :: (ys ++ ms)).Perm (xs ++ ns) → IsHeap (ltB b) ys → Q (.tup r) (upd (upd σ l (enc ys)) n (enc ms))

theorem law_laid_ok {B : Bs} (BO : BOk B) (G : MG B) (hsd : Fn B 1 (Str.ofString "_siftdown_max") (C_sd gtT)) (hpu : Fn B 2 (Str.ofString "heappush") (C_push lexlt)) {a : Addr} (D : DefN B 14 a) : FnOK B 3 a C_laid := by
  refine fn_intro BO D ?_ (fun pm cd doc vs hv => by obtain ⟨_, _, _, rfl⟩ := len3 hv; rfl) (fun vs hv => by obtain ⟨_, _, _, rfl⟩ := len3 hv; exact locs (by rfl))
  rintro A cd L Vs σ Q hA ⟨l, xs, x, b, rfl, hl, hok, hx, hh, hz, hQ⟩
  refine ⟨rfl, ?_⟩
  refine B_cons <| S_if <| T_val <| E_local rfl <| truthy_b ?_
  cases b with
  | true =>
    rw [if_pos rfl]
    refine B_cons <| S_expr <| E_append <| E_local rfl ⟨l, rfl, ⟨_, hl⟩, E_local rfl ⟨_, hl, by simp; omega, rfl, ?_⟩⟩
    have e : xs.map V.tup ++ [V.tup x] = (xs ++ [x]).map V.tup := by simp
    rw [e]
    refine B_cons <| S_expr <| E_call BO (hA.mono (by omega)) hsd <| A_cons <| E_local rfl <| A_cons <| E_int <| A_cons <| E_bin <| E_built BO G.len bb_len <| A_cons <| E_local rfl <| A_nil <| len_l (upd_same _ _ _) <| E_int <| sub_ii <| A_nil ?_
    obtain ⟨q1, q2⟩ := push_spec gtTot (x := x) hh
    refine ⟨l, 0, xs.length, xs ++ [x], ?_, upd_same _ _ _, ?_, by simp, rfl, B_nil <| B_nil ?_⟩
    · simp
    · intro t ht
      rcases List.mem_append.mp ht with q | q
      · exact hok t q
      · rw [List.mem_singleton.mp q]; exact hx
    · rw [upd_upd, push_len]
      exact hQ _ (q1.trans List.perm_append_comm) q2
  | false =>
    rw [if_neg (by simp)]
    refine B_cons <| S_expr <| E_call BO hA hpu <| A_cons <| E_local rfl <| A_cons <| E_local rfl <| A_nil ?_
    exact ⟨l, xs, x, rfl, hl, hok, hx, hh, hz, fun ys h1 h2 => ⟨rfl, B_nil <| B_nil <| hQ ys h1 h2⟩⟩
theorem law_first_ok {B : Bs} (BO : BOk B) (hla : Fn B 3 (Str.ofString "_law_laid") C_laid) (hpo : Fn B 3 (Str.ofString "_heappop_max") (C_pop gtT)) (hpp : Fn B 3 (Str.ofString "heappushpop") (C_ppop lexlt)) {a : Addr} (D : DefN B 15 a) : FnOK B 4 a C_first := by
  refine fn_intro BO D ?_ (fun pm cd doc vs hv => by obtain ⟨_, _, _, rfl⟩ := len3 hv; rfl) (fun vs hv => by obtain ⟨_, _, _, rfl⟩ := len3 hv; exact locs (by rfl))
  rintro A cd L Vs σ Q hA ⟨l, xs, x, b, rfl, hl, hok, hx, hh, hz, hQ⟩
  refine ⟨rfl, ?_⟩
  refine B_cons <| S_if <| T_val <| E_local rfl <| truthy_b ?_
  cases b with
  | true =>
    rw [if_pos rfl]
    refine B_cons <| S_expr <| E_call BO hA hla <| A_cons <| E_local rfl <| A_cons <| E_local rfl <| A_cons <| E_local rfl <| A_nil ?_
    refine ⟨l, xs, x, true, rfl, hl, hok, hx, hh, hz, fun ys h1 h2 => ⟨rfl, ?_⟩⟩
    refine B_cons <| S_ret <| E_call BO hA hpo <| A_cons <| E_local rfl <| A_nil ?_
    have hoky : okT ys := by
      refine okT.perm (xs := x :: xs) (fun t ht => ?_) h1
      cases ht with
      | head => exact hx
      | tail _ ht => exact hok t ht
    refine ⟨l, ys, rfl, upd_same _ _ _, hoky, h2, fun z => by have := h1.length_eq; rw [z] at this; simp at this, fun r zs h3 h4 h5 => ?_⟩
    rw [upd_upd]
    exact hQ r zs (h3.trans h1) h4 fun y hy => h5 y (h1.mem_iff.mpr hy)
  | false =>
    rw [if_neg (by simp)]
    refine B_nil <| B_cons <| S_ret <| E_call BO hA hpp <| A_cons <| E_local rfl <| A_cons <| E_local rfl <| A_nil ?_
    exact ⟨l, xs, x, rfl, hl, hok, hx, hh, fun r ys h1 h2 h3 => hQ r ys h1 h2 h3⟩

noncomputable def ltV (b : Bool) : V → V → Bool
  | .tup x, .tup y => ltB b x y
  | _, _ => false
noncomputable def pickT (lt : T → T → Bool) : T → List T → T
  | b, [] => b
  | b, x :: r => pickT lt (if lt x b = true then x else b) r
theorem pick_enc (b : Bool) : ∀ (rest : List T) (x : T), pick (ltV b) (.tup x) (rest.map V.tup) = .tup (pickT (ltB b) x rest)
  | [], _ => rfl
  | y :: r, x => by
    show pick (ltV b) (if ltB b y x = true then V.tup y else V.tup x) (r.map V.tup) = .tup (pickT (ltB b) (if ltB b y x = true then y else x) r)
    cases h : ltB b y x with
    | true => simp only [if_true]; exact pick_enc b r y
    | false => simp only [Bool.false_eq_true, if_false]; exact pick_enc b r x
theorem pickT_spec {lt : T → T → Bool} (H : Tot lt) : ∀ (rest : List T) (x : T), pickT lt x rest ∈ x :: rest ∧ ∀ y ∈ x :: rest, le lt (pickT lt x rest) y
  | [], x => ⟨.head _, fun y hy => by rw [List.mem_singleton.mp hy]; exact le_refl H _⟩
  | z :: r, x => by
    show pickT lt (if lt z x = true then z else x) r ∈ _ ∧ ∀ y ∈ _, le lt (pickT lt (if lt z x = true then z else x) r) y
    cases h : lt z x with
    | true =>
      simp only [if_true]
      obtain ⟨h1, h2⟩ := pickT_spec H r z
      refine ⟨.tail _ h1, fun y hy => ?_⟩
      cases hy with
      | head => exact le_trans H (h2 z (.head _)) (le_of_lt H h)
      | tail _ hy => exact h2 y hy
    | false =>
      simp only [Bool.false_eq_true, if_false]
      obtain ⟨h1, h2⟩ := pickT_spec H r x
      refine ⟨?_, fun y hy => ?_⟩
      · rcases List.mem_cons.mp h1 with e | e
        · rw [e]; exact .head _
        · exact .tail _ (.tail _ e)
      · cases hy with
        | head => exact h2 x (.head _)
        | tail _ hy =>
          cases hy with
          | head => exact le_trans H (h2 x (.head _)) (le_of_not H h)
          | tail _ hy => exact h2 y (.tail _ hy)

theorem law_taken_ok {B : Bs} (BO : BOk B) (G : MG B) (hhi : Fn B 3 (Str.ofString "heapify") (C_hify lexlt)) (hhx : Fn B 3 (Str.ofString "_heapify_max") (C_hify gtT)) (hre : Fn B 3 (Str.ofString "heapreplace") (C_repl lexlt)) (hrx : Fn B 3 (Str.ofString "_heapreplace_max") (C_repl gtT))
    (hpo : Fn B 3 (Str.ofString "heappop") (C_pop lexlt)) (hpx : Fn B 3 (Str.ofString "_heappop_max") (C_pop gtT)) {a : Addr} (D : DefN B 13 a) : FnOK B 4 a C_taken := by
  refine fn_intro BO D ?_ (fun pm cd doc vs hv => by obtain ⟨_, _, _, rfl⟩ := len3 hv; rfl) (fun vs hv => by obtain ⟨_, _, _, rfl⟩ := len3 hv; exact locs (by rfl))
  rintro A cd L Vs σ Q hA ⟨l, n, xs, ns, b, rfl, hln, hl, hn, hokx, hokn, hh, hne, hz, hQ⟩
  refine ⟨rfl, ?_⟩
  -- what follows once the heap holds something
  have rest : ∀ (zs ks : List T) (m : List (Str × V)), Sub [(Str.ofString "heap", .ref l), (Str.ofString "news", .ref n), (Str.ofString "back", .bool b)] m → okT zs → okT ks → IsHeap (ltB b) zs → zs ≠ [] → (zs ++ ks).Perm (xs ++ ns) →
      WB B A (envOf (fName (stmtAt 13)) (fScope (stmtAt 13)) L a cd) ((fBody (stmtAt 13)).drop 1) ⟨m, upd (upd σ l (enc zs)) n (enc ks)⟩ fun f st => Q (retV f) st.σ := by
    intro zs ks m hm hokz hokk hhz hzne hp
    have hσl : upd (upd σ l (enc zs)) n (enc ks) l = some (enc zs) := (upd_ne hln).trans (upd_same _ _ _)
    obtain ⟨z, zr, rfl⟩ : ∃ z zr, zs = z :: zr := by
      cases zs with
      | nil => exact absurd rfl hzne
      | cons z zr => exact ⟨z, zr, rfl⟩
    obtain ⟨p1, p2⟩ := pickT_spec (totB b) zr z
    have hcmp : ∀ op, (op = .Gt ∧ b = true) ∨ (op = .Lt ∧ b = false) → ∀ x y, x ∈ (z :: zr).map V.tup → y ∈ (z :: zr).map V.tup → ∀ st, W2 B A.in1 (envOf (fName (stmtAt 13)) (fScope (stmtAt 13)) L a cd).locals VRep (richCompare op) x y st fun c st' => c = .bool (ltV b x y) ∧ st' = st := by
      intro op hop x y hx hy st
      obtain ⟨tx, htx, rfl⟩ := List.mem_map.mp hx
      obtain ⟨ty, hty, rfl⟩ := List.mem_map.mp hy
      have hu : A.in1.units < cLine := by have := hA.un; show A.units + 1 < 9900; omega
      rcases hop with ⟨rfl, rfl⟩ | ⟨rfl, rfl⟩
      · exact gt_tt hu (by rw [hokz tx htx, hokz ty hty]) ⟨rfl, rfl⟩
      · exact lt_tt hu (by rw [hokz tx htx, hokz ty hty]) ⟨rfl, rfl⟩
    -- the end: what is gone is what was asked
    have fin : ∀ (r : T) (ys ms : List T) (m' : List (Str × V)), Sub [(Str.ofString "gone", .tup r), (Str.ofString "due", .tup (pickT (ltB b) z zr))] m' → r ∈ z :: zr → (∀ y ∈ z :: zr, le (ltB b) r y) → (r :: (ys ++ ms)).Perm (xs ++ ns) → IsHeap (ltB b) ys →
        WB B A (envOf (fName (stmtAt 13)) (fScope (stmtAt 13)) L a cd) ((fBody (stmtAt 13)).drop 3) ⟨m', upd (upd σ l (enc ys)) n (enc ms)⟩ fun f st => Q (retV f) st.σ := by
      intro r ys ms m' hm' hr hle hpp hys
      have e : r = pickT (ltB b) z zr := le_antisymm (totB b) (hle _ p1) (p2 r hr)
      refine B_cons <| S_ret <| E_ifexp <| T_cmp <| E_local hm'.1 <| E_local hm'.2.1 <| eq_tt hA.line64 ⟨_, rfl, ?_⟩
      rw [if_pos (by simpa using e)]
      exact E_local hm'.1 (hQ r ys ms hpp hys)
    have due : ∀ (Q' : V → St → Prop), Q' (.tup (pickT (ltB b) z zr)) ⟨m, upd (upd σ l (enc (z :: zr))) n (enc ks)⟩ → WE B A (envOf (fName (stmtAt 13)) (fScope (stmtAt 13)) L a cd) (match (fBody (stmtAt 13))[1]? with | some (Stmt.Assign _ v _) => v | _ => default) ⟨m, upd (upd σ l (enc (z :: zr))) n (enc ks)⟩ Q' := by
      intro Q' hq
      refine E_ifexp <| T_val <| E_local hm.2.2.1 <| truthy_b ?_
      cases b with
      | true =>
        rw [if_pos rfl]
        refine E_built BO G.max bb_max <| A_cons <| E_local hm.1 <| A_nil <| max_list (lt := ltV true) hA.hd (hcmp .Gt (.inl ⟨rfl, rfl⟩)) hσl ?_
        rw [pick_enc]
        exact hq
      | false =>
        rw [if_neg (by simp)]
        refine E_built BO G.min bb_min <| A_cons <| E_local hm.1 <| A_nil <| min_list (lt := ltV false) hA.hd (hcmp .Lt (.inr ⟨rfl, rfl⟩)) hσl ?_
        rw [pick_enc]
        exact hq
    refine B_cons <| S_assign <| due _ <| W1_store ?_
    refine B_cons <| S_if <| T_neNil hA.line64 <| E_local (by exact hm.2.1) ⟨n, _, rfl, upd_same _ _ _, flat_enc, ?_⟩
    rw [empty_enc]
    rcases List.eq_nil_or_concat ks with rfl | ⟨ks', item, rfl⟩
    · rw [if_neg (by simp)]
      refine B_cons <| S_assign <| E_ifexp <| T_val <| E_local (by exact hm.2.2.1) <| truthy_b ?_
      have go : ∀ r ys, (r :: ys).Perm (z :: zr) → IsHeap (ltB b) ys → (∀ y ∈ z :: zr, le (ltB b) r y) → W1 B A (envOf (fName (stmtAt 13)) (fScope (stmtAt 13)) L a cd).locals URep (storeName (envOf (fName (stmtAt 13)) (fScope (stmtAt 13)) L a cd) (Str.ofString "gone")) (.tup r)
          ⟨(Str.ofString "due", .tup (pickT (ltB b) z zr)) :: m, upd (upd (upd σ l (enc (z :: zr))) n (enc [])) l (enc ys)⟩ fun _ st => Then B A (envOf (fName (stmtAt 13)) (fScope (stmtAt 13)) L a cd) [] (Then B A (envOf (fName (stmtAt 13)) (fScope (stmtAt 13)) L a cd) ((fBody (stmtAt 13)).drop 3) fun f st => Q (retV f) st.σ) .next st := by
        intro r ys h1 h2 h3
        refine W1_store <| B_nil ?_
        have e : upd (upd (upd σ l (enc (z :: zr))) n (enc [])) l (enc ys) = upd (upd σ l (enc ys)) n (enc []) := by
          funext c
          by_cases c1 : c = l
          · subst c1; rw [upd_same, upd_ne hln, upd_same]
          · rw [upd_ne c1]
            by_cases c2 : c = n
            · subst c2; rw [upd_same, upd_same]
            · rw [upd_ne c2, upd_ne c2, upd_ne c1, upd_ne c1]
        dsimp only
        rw [e]
        refine fin r ys [] _ ⟨rfl, rfl, trivial⟩ (h1.mem_iff.mp (.head _)) h3 ?_ h2
        rw [List.append_nil]
        rw [List.append_nil] at hp
        exact h1.trans hp
      cases b with
      | true =>
        rw [if_pos rfl]
        refine E_call BO hA hpx <| A_cons <| E_local (by exact hm.1) <| A_nil ?_
        exact ⟨l, z :: zr, rfl, hσl, hokz, hhz, by simp, go⟩
      | false =>
        rw [if_neg (by simp)]
        refine E_call BO hA hpo <| A_cons <| E_local (by exact hm.1) <| A_nil ?_
        exact ⟨l, z :: zr, rfl, hσl, hokz, hhz, by simp, go⟩
    · rw [List.concat_eq_append] at *
      rw [if_pos (by cases ks' <;> simp)]
      refine B_cons <| S_assign <| E_pop <| E_local (by exact hm.2.1) ⟨n, ks'.map V.tup, .tup item, rfl, (upd_same _ _ _).trans (by simp [enc]), W1_store ?_⟩
      dsimp only
      rw [upd_upd]
      have hσl' : upd (upd σ l (enc (z :: zr))) n (.list (ks'.map V.tup)) l = some (enc (z :: zr)) := (upd_ne hln).trans (upd_same _ _ _)
      refine B_cons <| S_assign <| E_ifexp <| T_val <| E_local (by exact hm.2.2.1) <| truthy_b ?_
      have hit : item.length = 3 := hokk item (List.mem_append_right _ (.head _))
      have go : ∀ r ys, (r :: ys).Perm (item :: z :: zr) → IsHeap (ltB b) ys → (∀ y ∈ z :: zr, le (ltB b) r y) → r ∈ z :: zr → W1 B A (envOf (fName (stmtAt 13)) (fScope (stmtAt 13)) L a cd).locals URep (storeName (envOf (fName (stmtAt 13)) (fScope (stmtAt 13)) L a cd) (Str.ofString "gone")) (.tup r)
          ⟨(Str.ofString "item", .tup item) :: (Str.ofString "due", .tup (pickT (ltB b) z zr)) :: m, upd (upd (upd σ l (enc (z :: zr))) n (.list (ks'.map V.tup))) l (enc ys)⟩ fun _ st => Then B A (envOf (fName (stmtAt 13)) (fScope (stmtAt 13)) L a cd) [] (Then B A (envOf (fName (stmtAt 13)) (fScope (stmtAt 13)) L a cd) ((fBody (stmtAt 13)).drop 3) fun f st => Q (retV f) st.σ) .next st := by
        intro r ys h1 h2 h3 h4
        refine W1_store <| B_nil ?_
        have e : upd (upd (upd σ l (enc (z :: zr))) n (.list (ks'.map V.tup))) l (enc ys) = upd (upd σ l (enc ys)) n (enc ks') := by
          funext c
          by_cases c1 : c = l
          · subst c1; rw [upd_same, upd_ne hln, upd_same]
          · rw [upd_ne c1]
            by_cases c2 : c = n
            · subst c2; rw [upd_same, upd_same]
            · rw [upd_ne c2, upd_ne c2, upd_ne c1, upd_ne c1]
        dsimp only
        rw [e]
        refine fin r ys ks' _ ⟨rfl, rfl, trivial⟩ h4 h3 ?_ h2
        refine List.Perm.trans ?_ hp
        rw [← List.cons_append]
        refine (h1.append_right ks').trans ?_
        rw [← List.append_assoc]
        exact (List.perm_append_comm (l₁ := (z :: zr) ++ ks') (l₂ := [item])).symm
      cases b with
      | true =>
        rw [if_pos rfl]
        refine E_call BO hA hrx <| A_cons <| E_local (by exact hm.1) <| A_cons <| E_local rfl <| A_nil ?_
        exact ⟨l, z :: zr, item, rfl, hσl', hokz, hit, hhz, by simp, go⟩
      | false =>
        rw [if_neg (by simp)]
        refine E_call BO hA hre <| A_cons <| E_local (by exact hm.1) <| A_cons <| E_local rfl <| A_nil ?_
        exact ⟨l, z :: zr, item, rfl, hσl', hokz, hit, hhz, by simp, go⟩
  refine B_cons <| S_if <| T_eqNil hA.line64 <| E_local rfl ⟨l, _, rfl, hl, flat_enc, ?_⟩
  rw [empty_enc]
  cases xs with
  | cons x xr =>
    rw [if_neg (by simp)]
    refine B_nil ?_
    have := rest (x :: xr) ns [(Str.ofString "back", .bool b), (Str.ofString "news", .ref n), (Str.ofString "heap", .ref l)] ⟨rfl, rfl, rfl, trivial⟩ hokx hokn hh (by simp) (List.Perm.refl _)
    rw [upd_self hl, upd_self hn] at this
    exact this
  | nil =>
    rw [if_pos (by simp)]
    refine B_cons <| S_while (ι := List T × List T) (fun i st => st = ⟨[(Str.ofString "heap", .ref l), (Str.ofString "news", .ref n), (Str.ofString "back", .bool b)], upd (upd σ l (enc i.1)) n (enc i.2)⟩ ∧ (i.1 ++ i.2).Perm ns) (fun i => i.2.length) ([], ns) _
      (by exact Le.of ⟨rfl, rfl, rfl, trivial⟩ (by rw [upd_self hl, upd_self hn])) ⟨rfl, List.Perm.refl _⟩ ?_
    rintro ⟨hs, ks⟩ st ⟨rfl, hp⟩
    dsimp only at *
    have hokb : okT (hs ++ ks) := hokn.perm hp
    have hlen : hs.length + ks.length = ns.length := by have := hp.length_eq; simpa using this
    have hnl : ns.length ≤ 500 := by simpa using hz
    refine T_neNil hA.line64 <| E_local rfl ⟨n, _, rfl, upd_same _ _ _, flat_enc, ?_⟩
    rw [empty_enc]
    rcases List.eq_nil_or_concat ks with rfl | ⟨ks', item, rfl⟩
    · rw [if_neg (by simp)]
      have hne' : hs ≠ [] := fun z => by subst z; simp at hp; exact hne (by simpa using hp)
      have hσl : upd (upd σ l (enc hs)) n (enc []) l = some (enc hs) := (upd_ne hln).trans (upd_same _ _ _)
      refine B_cons <| S_if <| T_val <| E_local rfl <| truthy_b ?_
      have okhs : okT hs := by simpa using hokb
      have hsn : hs.Perm ns := by simpa using hp
      have go : ∀ ys, ys.Perm hs → IsHeap (ltB b) ys → WB B A (envOf (fName (stmtAt 13)) (fScope (stmtAt 13)) L a cd) ((fBody (stmtAt 13)).drop 1) ⟨[(Str.ofString "heap", .ref l), (Str.ofString "news", .ref n), (Str.ofString "back", .bool b)], upd (upd (upd σ l (enc hs)) n (enc [])) l (enc ys)⟩ fun f st => Q (retV f) st.σ := by
        intro ys h1 h2
        have e : upd (upd (upd σ l (enc hs)) n (enc [])) l (enc ys) = upd (upd σ l (enc ys)) n (enc []) := by
          funext c
          by_cases c1 : c = l
          · subst c1; rw [upd_same, upd_ne hln, upd_same]
          · rw [upd_ne c1]
            by_cases c2 : c = n
            · subst c2; rw [upd_same, upd_same]
            · rw [upd_ne c2, upd_ne c2, upd_ne c1, upd_ne c1]
        rw [e]
        refine rest ys [] _ ⟨rfl, rfl, rfl, trivial⟩ (okhs.perm h1) (fun t ht => by simp at ht) h2 (fun z => by subst z; exact hne' (by simpa using h1.symm)) ?_
        rw [List.append_nil, List.nil_append]
        exact h1.trans hsn
      cases b with
      | true =>
        rw [if_pos rfl]
        refine B_cons <| S_expr <| E_call BO hA hhx <| A_cons <| E_local rfl <| A_nil ?_
        exact ⟨l, hs, rfl, hσl, okhs, by simp at hlen; omega, fun ys h1 h2 => ⟨rfl, B_nil <| B_nil <| go ys h1 h2⟩⟩
      | false =>
        rw [if_neg (by simp)]
        refine B_cons <| S_expr <| E_call BO hA hhi <| A_cons <| E_local rfl <| A_nil ?_
        exact ⟨l, hs, rfl, hσl, okhs, by simp at hlen; omega, fun ys h1 h2 => ⟨rfl, B_nil <| B_nil <| go ys h1 h2⟩⟩
    · rw [List.concat_eq_append] at *
      rw [if_pos (by cases ks' <;> simp)]
      refine B_cons <| S_expr <| E_append <| E_local rfl ⟨l, rfl, ⟨_, (upd_ne hln).trans (upd_same _ _ _)⟩, E_pop <| E_local rfl ⟨n, ks'.map V.tup, .tup item, rfl, (upd_same _ _ _).trans (by simp [enc]), hs.map V.tup, ?_, ?_, rfl, B_nil ?_⟩⟩
      · dsimp only
        rw [upd_upd, upd_ne hln, upd_same]
      · simp at hlen ⊢
        omega
      · refine ⟨(hs ++ [item], ks'), ⟨[(Str.ofString "heap", .ref l), (Str.ofString "news", .ref n), (Str.ofString "back", .bool b)], upd (upd σ l (enc (hs ++ [item]))) n (enc ks')⟩, by simp, Le.of ⟨rfl, rfl, rfl, trivial⟩ ?_, rfl, ?_⟩
        · dsimp only
          funext c
          by_cases c1 : c = l
          · subst c1
            rw [upd_ne hln, upd_same, upd_same]
            simp [enc]
          · rw [upd_ne (σ := upd (upd (upd σ l _) n _) n _) c1]
            by_cases c2 : c = n
            · subst c2; rw [upd_same, upd_same]
            · rw [upd_ne c2, upd_ne c2, upd_ne c2, upd_ne c1, upd_ne c1]
        · dsimp only
          refine List.Perm.trans ?_ hp
          rw [List.append_assoc]
          exact List.Perm.append_left hs (List.perm_append_comm)
end Mine
end

/-! ## R0 -/
section
set_option maxRecDepth 100000
namespace Mine
open PySem PySem.W PySem.Calls PySem.SeqAt PyProof.Rows

def cmOf (ws : List T) (j : Nat) : Int := (ws.getD j []).getD 0 0
def szOf (ws : List T) (j : Nat) : Int := (ws.getD j []).getD 1 0
def duOf (ws : List T) (j : Nat) : Int := (ws.getD j []).getD 2 0
structure WOK (ws : List T) : Prop where
  lo : 3 ≤ ws.length
  hi : ws.length ≤ 8
  row : ∀ t ∈ ws, ∃ c s d, t = [c, s, d] ∧ 1 ≤ s ∧ s ≤ 3
theorem WOK.get {ws : List T} (h : WOK ws) {j : Nat} (hj : j < ws.length) : ws[j]? = some [cmOf ws j, szOf ws j, duOf ws j] ∧ 1 ≤ szOf ws j ∧ szOf ws j ≤ 3 := by
  obtain ⟨c, s, d, e, h1, h2⟩ := h.row ws[j] (List.getElem_mem hj)
  have e0 : ws[j]? = some ws[j] := List.getElem?_eq_getElem hj
  have e' : ws.getD j [] = [c, s, d] := by rw [List.getD_eq_getElem?_getD, e0, e]; rfl
  unfold cmOf szOf duOf
  rw [e', e0, e]
  exact ⟨rfl, h1, h2⟩
def keyOf (b : Bool) (ws : List T) (j : Nat) : Int := if b = true then duOf ws j else cmOf ws j
def rkOf (b : Bool) (ws : List T) (j : Nat) : Int := if b = true then cmOf ws j else duOf ws j
def nw (b : Bool) (τ : Int) : Int := if b = true then -τ else τ
def hr (b : Bool) (u : Int) : Int := if b = true then -1 - u else u
def rOf (b : Bool) (ws : List T) (j : Nat) : Int := nw b (keyOf b ws j)
def prB (b : Bool) (rk : Nat → Int) (i j : Nat) : Prop := if b = true then rk j < rk i ∨ (rk j = rk i ∧ j ≤ i) else rk i < rk j ∨ (rk i = rk j ∧ i ≤ j)
def quad (b : Bool) (ws : List T) (j : Nat) : T := [keyOf b ws j, rkOf b ws j, (j : Int), szOf ws j]
def trip (b : Bool) (ws : List T) (p : Nat × Int) : T := [rkOf b ws p.1, (p.1 : Int), p.2]
theorem trip_le {b : Bool} {ws : List T} {p q : Nat × Int} (h : le (ltB b) (trip b ws p) (trip b ws q)) (hne : p.1 ≠ q.1) : prB b (rkOf b ws) p.1 q.1 := by
  have hne' : (p.1 : Int) ≠ (q.1 : Int) := by omega
  cases b with
  | false =>
    show rkOf false ws p.1 < rkOf false ws q.1 ∨ (rkOf false ws p.1 = rkOf false ws q.1 ∧ p.1 ≤ q.1)
    have h' : lexlt (trip false ws q) (trip false ws p) = false := h
    simp only [trip, lexlt] at h'
    by_cases e : rkOf false ws q.1 = rkOf false ws p.1
    · rw [if_pos e, if_neg hne'.symm] at h'
      have := of_decide_eq_false h'
      right
      omega
    · rw [if_neg e] at h'
      have := of_decide_eq_false h'
      omega
  | true =>
    show rkOf true ws q.1 < rkOf true ws p.1 ∨ (rkOf true ws q.1 = rkOf true ws p.1 ∧ q.1 ≤ p.1)
    have h' : lexlt (trip true ws p) (trip true ws q) = false := h
    simp only [trip, lexlt] at h'
    by_cases e : rkOf true ws p.1 = rkOf true ws q.1
    · rw [if_pos e, if_neg hne'] at h'
      have := of_decide_eq_false h'
      right
      omega
    · rw [if_neg e] at h'
      have := of_decide_eq_false h'
      omega
theorem perm_lift {α β : Type} {f : α → β} {ys zs : List β} (h : ys.Perm zs) : ∀ l : List α, zs = l.map f → ∃ l' : List α, ys = l'.map f ∧ l'.Perm l := by
  induction h with
  | nil => intro l e; exact ⟨l, e, .refl _⟩
  | cons x h ih =>
    intro l e
    cases l with
    | nil => cases e
    | cons y l =>
      rw [List.map_cons] at e
      injection e with e1 e2
      obtain ⟨l', q1, q2⟩ := ih l e2
      exact ⟨y :: l', by rw [List.map_cons, ← q1, ← e1], q2.cons y⟩
  | swap x y m =>
    intro l e
    match l, e with
    | u :: v :: l, e =>
      simp only [List.map_cons] at e
      injection e with e1 e2
      injection e2 with e2 e3
      exact ⟨v :: u :: l, by simp [e1, e2, e3], List.Perm.swap u v l⟩
  | trans _ _ ih1 ih2 =>
    intro l e
    obtain ⟨l1, q1, q2⟩ := ih2 l e
    obtain ⟨l2, q3, q4⟩ := ih1 l1 q1
    exact ⟨l2, q3, q4.trans q2⟩

def wgt (sz : Nat → Int) (wj : List Nat) (P : List (Nat × Int)) : Nat := (wj.map fun j => (sz j).toNat).sum + (P.map fun p => p.2.toNat).sum
theorem wgt_perm {sz : Nat → Int} {wj : List Nat} {P P' : List (Nat × Int)} (h : P.Perm P') : wgt sz wj P = wgt sz wj P' := by
  unfold wgt
  rw [(h.map fun p => p.2.toNat).sum_nat]
theorem wgt_join {sz : Nat → Int} {wj : List Nat} {k : Nat} {P : List (Nat × Int)} : wgt sz wj ((k, sz k) :: P) = wgt sz (wj ++ [k]) P := by
  unfold wgt
  simp
  omega
theorem wgt_work {sz : Nat → Int} {wj : List Nat} {j : Nat} {q : Int} {ρ : Nat} {P : List (Nat × Int)} (h1 : 1 ≤ ρ) (h2 : (ρ : Int) ≤ q) : wgt sz wj (if (ρ : Int) < q then (j, q - ρ) :: P else P) < wgt sz wj ((j, q) :: P) := by
  unfold wgt
  split
  · simp
    omega
  · simp
    omega

structure Dist (σ : Store) (wa he ho : Addr) (as : List Addr) (n : Nat) : Prop where
  len : as.length = n
  nwa : σ wa = none
  nhe : σ he = none
  nho : σ ho = none
  nrow : ∀ j, j < n → σ (as.getD j 0) = none
  wahe : wa ≠ he
  waho : wa ≠ ho
  heho : he ≠ ho
  rwa : ∀ j, j < n → as.getD j 0 ≠ wa
  rhe : ∀ j, j < n → as.getD j 0 ≠ he
  rho : ∀ j, j < n → as.getD j 0 ≠ ho
  inj : ∀ i j, i < n → j < n → as.getD i 0 = as.getD j 0 → i = j
abbrev rowV (b : Bool) (us : List Int) : AO := .list (us.map fun u => V.int (hr b u))
structure RunAt (b : Bool) (ws : List T) (σ : Store) (wa he ho : Addr) (as : List Addr) (σ' : Store) (wj : List Nat) (H : List (Nat × Int)) (U : Nat → List Int) : Prop where
  old : ∀ c o, σ c = some o → σ' c = some o
  wa : σ' wa = some (enc (wj.map (quad b ws)))
  he : σ' he = some (enc (H.map (trip b ws)))
  ho : σ' ho = some (.list (as.map V.ref))
  row : ∀ j, j < ws.length → σ' (as.getD j 0) = some (rowV b (U j))
section
variable {b : Bool} {ws : List T} {σ : Store} {wa he ho : Addr} {as : List Addr} {σ' : Store} {wj : List Nat} {H : List (Nat × Int)} {U : Nat → List Int}
theorem RunAt.setWa (D : Dist σ wa he ho as ws.length) (X : RunAt b ws σ wa he ho as σ' wj H U) {wj' : List Nat} {o : AO} (ho' : o = enc (wj'.map (quad b ws))) : RunAt b ws σ wa he ho as (upd σ' wa o) wj' H U where
  old := fun c o e => by rw [upd_ne (fun z => by rw [z, D.nwa] at e; cases e)]; exact X.old c o e
  wa := by rw [upd_same, ho']
  he := by rw [upd_ne D.wahe.symm]; exact X.he
  ho := by rw [upd_ne D.waho.symm]; exact X.ho
  row := fun j hj => by rw [upd_ne (D.rwa j hj)]; exact X.row j hj
theorem RunAt.setHe (D : Dist σ wa he ho as ws.length) (X : RunAt b ws σ wa he ho as σ' wj H U) {H' : List (Nat × Int)} {o : AO} (ho' : o = enc (H'.map (trip b ws))) : RunAt b ws σ wa he ho as (upd σ' he o) wj H' U where
  old := fun c o e => by rw [upd_ne (fun z => by rw [z, D.nhe] at e; cases e)]; exact X.old c o e
  wa := by rw [upd_ne D.wahe]; exact X.wa
  he := by rw [upd_same, ho']
  ho := by rw [upd_ne D.heho.symm]; exact X.ho
  row := fun j hj => by rw [upd_ne (D.rhe j hj)]; exact X.row j hj
theorem RunAt.setRow (D : Dist σ wa he ho as ws.length) (X : RunAt b ws σ wa he ho as σ' wj H U) {j : Nat} (hj : j < ws.length) {U' : Nat → List Int} {o : AO} (ho' : o = rowV b (U' j)) (hU : ∀ i, i ≠ j → U' i = U i) : RunAt b ws σ wa he ho as (upd σ' (as.getD j 0) o) wj H U' where
  old := fun c o e => by rw [upd_ne (fun z => by rw [z, D.nrow j hj] at e; cases e)]; exact X.old c o e
  wa := by rw [upd_ne (D.rwa j hj).symm]; exact X.wa
  he := by rw [upd_ne (D.rhe j hj).symm]; exact X.he
  ho := by rw [upd_ne (D.rho j hj).symm]; exact X.ho
  row := fun i hi => by
    by_cases e : i = j
    · subst e; rw [upd_same, ho']
    · rw [upd_ne (fun z => e (D.inj i j hi hj z)), hU i e]; exact X.row i hi
structure Off (σ : Store) (wa he ho : Addr) (as : List Addr) (n : Nat) (c : Addr) : Prop where
  nold : σ c = none
  wa : c ≠ wa
  he : c ≠ he
  ho : c ≠ ho
  row : ∀ j, j < n → as.getD j 0 ≠ c
theorem RunAt.off (X : RunAt b ws σ wa he ho as σ' wj H U) {c : Addr} (h : σ' c = none) : Off σ wa he ho as ws.length c where
  nold := by
    cases e : σ c with
    | none => rfl
    | some o => rw [X.old c o e] at h; cases h
  wa := none_ne h X.wa
  he := none_ne h X.he
  ho := none_ne h X.ho
  row := fun j hj => (none_ne h (X.row j hj)).symm
theorem RunAt.other (X : RunAt b ws σ wa he ho as σ' wj H U) {c : Addr} (h : Off σ wa he ho as ws.length c) {o : AO} : RunAt b ws σ wa he ho as (upd σ' c o) wj H U where
  old := fun d o' e => by rw [upd_ne (fun z => by rw [z, h.nold] at e; cases e)]; exact X.old d o' e
  wa := by rw [upd_ne h.wa.symm]; exact X.wa
  he := by rw [upd_ne h.he.symm]; exact X.he
  ho := by rw [upd_ne h.ho.symm]; exact X.ho
  row := fun j hj => by rw [upd_ne (h.row j hj)]; exact X.row j hj
theorem okT_trip (b : Bool) (ws : List T) (H : List (Nat × Int)) : okT (H.map (trip b ws)) := fun t ht => by
  obtain ⟨p, _, rfl⟩ := List.mem_map.mp ht
  rfl
end
/-- «[[] for x in ..]»: as many new lists as the source has items -/
theorem comp_rows {B : Bs} {A : Around} {env : Env} {scope : Scope} {cl : List (Str × Addr)} {x : Str} {p : Pos} {n : Nat} {item : Nat → V} {Own : Store → Prop} {st : St} {Q : V → St → Prop} (hO : ∀ τ' : Store, (∀ c o, st.σ c = some o → τ' c = some o) → Own τ')
    (h : ∀ (ho : Addr) (as : List Addr) (τ' : Store), as.length = n → st.σ ho = none → τ' ho = some (.list (as.map V.ref)) → (∀ c o, st.σ c = some o → τ' c = some o) → (∀ j, j < n → τ' (as.getD j 0) = some (.list []) ∧ st.σ (as.getD j 0) = none ∧ as.getD j 0 ≠ ho) → (∀ j k, j < n → k < n → as.getD j 0 = as.getD k 0 → j = k) → Q (.ref ho) ⟨st.m, τ'⟩) :
    SrcOK B A env scope cl x [] (.List [] p) n item Own st Q := by
  intro ho hho
  refine ⟨fun i acc τ' => ∃ as : List Addr, acc = as.map V.ref ∧ as.length = i ∧ τ' ho = some (.list acc) ∧ (∀ c o, st.σ c = some o → τ' c = some o) ∧ (∀ j, j < i → τ' (as.getD j 0) = some (.list []) ∧ st.σ (as.getD j 0) = none ∧ as.getD j 0 ≠ ho) ∧ ∀ j k, j < i → k < i → as.getD j 0 = as.getD k 0 → j = k, ⟨?_, ?_⟩, ?_, ?_⟩
  · rintro i acc τ' ⟨as, rfl, hl, h1, h2, h3, h4⟩
    exact ⟨hO _ h2, h1, by simp; omega⟩
  · rintro i acc τ' C hi ⟨as, rfl, hl, h1, h2, h3, h4⟩
    refine C_nil ?_
    rw [if_pos rfl]
    refine E_list <| A_nil ⟨by simp, fun c hc => ?_⟩
    dsimp only at hc
    have hcho : c ≠ ho := none_ne hc h1
    have hc1 : st.σ c = none := by
      cases e2 : st.σ c with
      | none => rfl
      | some o => rw [h2 c o e2] at hc; cases hc
    have hget : ∀ j, j < i → (as ++ [c]).getD j 0 = as.getD j 0 := fun j hj => by
      rw [List.getD_eq_getElem?_getD, List.getD_eq_getElem?_getD, List.getElem?_append_left (by omega)]
    have hgetc : (as ++ [c]).getD i 0 = c := by
      rw [List.getD_eq_getElem?_getD, List.getElem?_append_right (by omega)]
      simp [hl]
    have hne : ∀ j, j < i → as.getD j 0 ≠ c := fun j hj => (none_ne hc (h3 j hj).1).symm
    refine ⟨(upd_ne hcho.symm).trans h1, as ++ [c], by simp, by simp [hl], upd_same _ _ _, fun d o e => ?_, fun j hj => ?_, fun j k hj hk e => ?_⟩
    · rw [upd_ne (fun z => by rw [z] at e; rw [hho] at e; cases e)]
      dsimp only
      rw [upd_ne (fun z => by rw [z, hc1] at e; cases e)]
      exact h2 d o e
    · by_cases hji : j = i
      · subst hji
        rw [hgetc]
        refine ⟨?_, hc1, hcho⟩
        rw [upd_ne hcho]
        dsimp only
        rw [upd_same]
      · have hj' : j < i := by omega
        rw [hget j hj']
        refine ⟨?_, (h3 j hj').2⟩
        rw [upd_ne (h3 j hj').2.2]
        dsimp only
        rw [upd_ne (hne j hj')]
        exact (h3 j hj').1
    · by_cases hji : j = i <;> by_cases hki : k = i
      · omega
      · subst hji
        rw [hgetc, hget k (by omega)] at e
        exact absurd e.symm (hne k (by omega))
      · subst hki
        rw [hgetc, hget j (by omega)] at e
        exact absurd e (hne j (by omega))
      · rw [hget j (by omega), hget k (by omega)] at e
        exact h4 j k (by omega) (by omega) e
  · refine ⟨[], rfl, rfl, upd_same _ _ _, fun c o e => ?_, fun j hj => by omega, fun j k hj => by omega⟩
    rw [upd_ne (fun z => by rw [z, hho] at e; cases e)]
    exact e
  · rintro acc τ' ⟨as, rfl, hl, h1, h2, h3, h4⟩
    exact h ho as τ' hl hho h1 h2 h3 h4
end Mine
end

/-! ## R1 -/
section
set_option maxRecDepth 100000
namespace Mine
open PySem PySem.W PySem.Calls PySem.SeqAt PyProof.Rows

noncomputable abbrev envR (L a : Addr) (cd : Value) : Env := envOf (fName (stmtAt 16)) (fScope (stmtAt 16)) L a cd
noncomputable abbrev bodyR : List Stmt := inner (fBody (stmtAt 16))[7]?
abbrev lR (b : Bool) (w wa ho he : Addr) (t : Int) : List (Str × V) := [(Str.ofString "works", .ref w), (Str.ofString "back", .bool b), (Str.ofString "waits", .ref wa), (Str.ofString "hours", .ref ho), (Str.ofString "heap", .ref he), (Str.ofString "now", .int t)]
def handV (b : Bool) (ws : List T) : Option (Nat × Int) → V
  | none => .none
  | some p => .tup (trip b ws p)

theorem last_get {b : Bool} {ws : List T} (wj : List Nat) (k : Nat) : (((wj ++ [k]).map (quad b ws)).map V.tup)[place (-1) (((wj ++ [k]).map (quad b ws)).map V.tup).length]? = some (.tup (quad b ws k)) := by
  unfold place
  rw [if_neg (by decide)]
  have : (-1 + (((wj ++ [k]).map (quad b ws)).map V.tup).length : Int).toNat = wj.length := by simp; omega
  rw [this]
  simp
theorem addSlots_self (U : Nat → List Int) (j : Nat) (l : List Int) : addSlots U j l j = U j ++ l := by unfold addSlots; rw [if_pos rfl]
theorem addSlots_ne (U : Nat → List Int) {i j : Nat} (l : List Int) (h : i ≠ j) : addSlots U j l i = U i := by unfold addSlots; rw [if_neg h]

theorem run_tail5 {B : Bs} (BO : BOk B) (G : MG B) {A : Around} (hA : Ok 4 A) (hfi : Fn B 4 (Str.ofString "_law_first") C_first) {L a : Addr} {cd : Value} {b : Bool} {ws : List T} {σ σ' : Store} {w wa he ho : Addr} {as : List Addr} {wj : List Nat} {H : List (Nat × Int)} {U : Nat → List Int} {p : Nat × Int} {τ : Int} {Q : AFlow → St → Prop}
    (WO : WOK ws) (D : Dist σ wa he ho as ws.length) (X : RunAt b ws σ wa he ho as σ' wj H U) (I : Inv ws.length (rOf b ws) (szOf ws) (prB b (rkOf b ws)) τ wj (p :: H) U) (hH : IsHeap (ltB b) (H.map (trip b ws))) (hw : ∀ k ∈ wj, τ < rOf b ws k) (hlen : H.length ≤ 1000)
    (hQ : ∀ τ' hd H' U' σ'', RunAt b ws σ wa he ho as σ'' wj H' U' → Inv ws.length (rOf b ws) (szOf ws) (prB b (rkOf b ws)) τ' wj (hd.toList ++ H') U' → IsHeap (ltB b) (H'.map (trip b ws)) → wgt (szOf ws) wj (hd.toList ++ H') < wgt (szOf ws) wj (p :: H) →
      ∀ m, Sub ((Str.ofString "hand", handV b ws hd) :: lR b w wa ho he (nw b τ')) m → Q .next ⟨m, σ''⟩) :
    WB B A (envR L a cd) (bodyR.drop 5) ⟨(Str.ofString "hand", .tup (trip b ws p)) :: lR b w wa ho he (nw b τ), σ'⟩ Q := by
  refine B_cons <| S_unpack <| E_call BO hA hfi <| A_cons <| E_local rfl <| A_cons <| E_local rfl <| A_cons <| E_local rfl <| A_nil ?_
  refine ⟨he, H.map (trip b ws), trip b ws p, b, rfl, X.he, okT_trip _ _ _, rfl, hH, by simpa using hlen, fun r ys h1 h2 h3 => ?_⟩
  obtain ⟨l', e, hp⟩ := perm_lift h1 (p :: H) rfl
  cases l' with
  | nil => cases e
  | cons p' H' =>
  obtain ⟨j, q⟩ := p'
  rw [List.map_cons] at e
  injection e with e1 e2
  subst e1 e2
  have I' := I.perm hp
  have hpool := I'.pool (j, q) (.head _)
  dsimp only at hpool
  have hj : j < ws.length := I'.lt j (List.mem_append_right _ (.head _))
  have hsz := (WO.get hj).2
  have hpr : ∀ x ∈ H', prB b (rkOf b ws) j x.1 := fun x hx => by
    refine trip_le (p := (j, q)) (h3 _ ?_) ?_
    · have : x ∈ p :: H := hp.mem_iff.mp (.tail _ hx)
      exact List.mem_map_of_mem (f := trip b ws) this
    · have := (List.nodup_append.mp I'.nd).2.1
      have := (List.nodup_cons.mp this).1
      intro z
      have z' : x.1 = j := z.symm
      have h9 : x.1 ∈ H'.map (fun y : Nat × Int => y.1) := List.mem_map_of_mem (f := fun y : Nat × Int => y.1) hx
      rw [z'] at h9
      exact this h9
  have X1 := X.setHe D (H' := H') rfl
  refine A_tup [(Str.ofString "rank", _), (Str.ofString "j", _), (Str.ofString "rest", _)] rfl rfl hA.hd ?_
  -- the run is known
  have go : ∀ (ρ : Nat), 1 ≤ ρ → (ρ : Int) ≤ q → (∀ k ∈ wj, τ + ρ ≤ rOf b ws k) → WB B A (envR L a cd) (bodyR.drop 7) ⟨(Str.ofString "run", .int ρ) :: (Str.ofString "rest", .int q) :: (Str.ofString "j", .int j) :: (Str.ofString "rank", .int (rkOf b ws j)) :: lR b w wa ho he (nw b τ), upd σ' he (enc (H'.map (trip b ws)))⟩ Q := by
    intro ρ r1 r2 r3
    refine B_cons <| S_forRange BO G.range hA.hd <| E_local rfl ⟨ρ, rfl, by omega, fun i st => i ≤ ρ ∧ ∃ σ2, st = ⟨(Str.ofString "run", .int ρ) :: (Str.ofString "rest", .int q) :: (Str.ofString "j", .int j) :: (Str.ofString "rank", .int (rkOf b ws j)) :: lR b w wa ho he (nw b τ), σ2⟩ ∧ RunAt b ws σ wa he ho as σ2 wj H' (addSlots U j (slots τ i)), _, Le.refl _, ⟨by omega, _, rfl, ?_⟩, ?_, ?_⟩
    · have e : addSlots U j (slots τ 0) = U := by
        funext i
        unfold addSlots slots
        simp
      rw [e]
      exact X1
    · rintro i st hi ⟨_, σ2, rfl, X2⟩
      have hrow := X2.row j hj
      have fin2 : ∀ v, v = hr b (τ + i) → ∀ m, Sub ((Str.ofString "run", .int ρ) :: (Str.ofString "rest", .int q) :: (Str.ofString "j", .int j) :: (Str.ofString "rank", .int (rkOf b ws j)) :: lR b w wa ho he (nw b τ)) m →
          ∃ st', Le st' ⟨m, upd σ2 (as.getD j 0) (.list ((addSlots U j (slots τ i) j).map (fun u => V.int (hr b u)) ++ [V.int v]))⟩ ∧ (i + 1 ≤ ρ ∧ ∃ σ2, st' = ⟨(Str.ofString "run", .int ρ) :: (Str.ofString "rest", .int q) :: (Str.ofString "j", .int j) :: (Str.ofString "rank", .int (rkOf b ws j)) :: lR b w wa ho he (nw b τ), σ2⟩ ∧ RunAt b ws σ wa he ho as σ2 wj H' (addSlots U j (slots τ (i + 1)))) := by
        rintro v rfl m hm
        refine ⟨_, Le.of hm rfl, by omega, _, rfl, X2.setRow D hj ?_ fun k hk => by rw [addSlots_ne _ _ hk, addSlots_ne _ _ hk]⟩
        rw [addSlots_self, addSlots_self, slots_succ]
        simp
      have hll : ((addSlots U j (slots τ i) j).map fun u => V.int (hr b u)).length < 1048576 := by
        rw [addSlots_self]
        simp [slots_len]
        omega
      refine A_name <| W1_store <| B_cons <| S_expr <| E_append <| E_sub <| E_local rfl <| E_local rfl <| item_list X2.ho (by have := D.len; simp; omega) (x := .ref (as.getD j 0)) ?_ ⟨_, rfl, ⟨_, hrow⟩, E_ifexp <| T_val <| E_local rfl <| truthy_b ?_⟩
      · have hja : j < as.length := by rw [D.len]; exact hj
        have : place (j : Int) (as.map V.ref).length = j := by unfold place; simp
        rw [this, List.getElem?_map, List.getElem?_eq_getElem hja]
        simp [hja]
      · cases b with
        | true =>
          rw [if_pos rfl]
          refine E_bin <| E_bin <| E_local rfl <| E_int <| sub_ii <| E_local rfl <| sub_ii ⟨_, hrow, hll, rfl, B_nil <| fin2 _ ?_ _ ⟨rfl, rfl, rfl, rfl, rfl, rfl, rfl, rfl, rfl, rfl, trivial⟩⟩
          simp only [nw, hr, if_true]
          omega
        | false =>
          rw [if_neg (by simp)]
          refine E_bin <| E_local rfl <| E_local rfl <| add_ii ⟨_, hrow, hll, rfl, B_nil <| fin2 _ ?_ _ ⟨rfl, rfl, rfl, rfl, rfl, rfl, rfl, rfl, rfl, rfl, trivial⟩⟩
          simp [nw, hr]
    · rintro st ⟨_, σ3, rfl, X3⟩
      have IW := I'.work hpr r1 r2 r3
      have WW := wgt_work (sz := szOf ws) (wj := wj) (j := j) (P := H') r1 r2
      rw [wgt_perm hp] at WW
      refine B_cons <| S_assign <| E_ifexp <| T_val <| E_local rfl <| truthy_b ?_
      have last : ∀ t, t = nw b (τ + ρ) → WB B A (envR L a cd) (bodyR.drop 9) ⟨(Str.ofString "now", .int t) :: (Str.ofString "run", .int ρ) :: (Str.ofString "rest", .int q) :: (Str.ofString "j", .int j) :: (Str.ofString "rank", .int (rkOf b ws j)) :: lR b w wa ho he (nw b τ), σ3⟩ Q := by
        rintro t rfl
        refine B_cons <| S_assign <| E_ifexp <| T_cmp <| E_local rfl <| E_local rfl <| lt_ii ⟨_, rfl, ?_⟩
        by_cases hc : (ρ : Int) < q
        · rw [if_pos (by simpa using hc)]
          rw [if_pos hc] at IW WW
          refine E_tuple <| A_cons <| E_local rfl <| A_cons <| E_local rfl <| A_cons <| E_bin <| E_local rfl <| E_local rfl <| sub_ii <| A_nil ⟨[_, _, _], rfl, by simp, W1_store <| B_nil ?_⟩
          exact hQ (τ + ρ) (some (j, q - ρ)) H' _ σ3 X3 IW h2 WW _ ⟨rfl, rfl, rfl, rfl, rfl, rfl, rfl, trivial⟩
        · rw [if_neg (by simpa using hc)]
          rw [if_neg hc] at IW WW
          refine E_none <| W1_store <| B_nil ?_
          exact hQ (τ + ρ) none H' _ σ3 X3 IW h2 WW _ ⟨rfl, rfl, rfl, rfl, rfl, rfl, rfl, trivial⟩
      cases b with
      | true =>
        rw [if_pos rfl]
        refine E_bin <| E_local rfl <| E_local rfl <| sub_ii <| W1_store <| last _ ?_
        simp only [nw, if_true]
        omega
      | false =>
        rw [if_neg (by simp)]
        refine E_bin <| E_local rfl <| E_local rfl <| add_ii <| W1_store <| last _ ?_
        simp [nw]
  refine B_cons <| S_assign <| E_ifexp <| T_neNil hA.line64 <| E_local rfl ⟨wa, _, rfl, X1.wa, flat_enc, ?_⟩
  rw [empty_enc]
  rcases List.eq_nil_or_concat wj with rfl | ⟨wj', k, rfl⟩
  · rw [if_neg (by simp)]
    refine E_local rfl <| W1_store ?_
    have := go q.toNat (by omega) (by omega) (by simp)
    rw [show ((q.toNat : Nat) : Int) = q by omega] at this
    refine W.weaken ?_ this
    exact Le.of ⟨rfl, rfl, rfl, rfl, rfl, rfl, rfl, rfl, rfl, rfl, trivial⟩ rfl
  · rw [List.concat_eq_append] at *
    rw [if_pos (by cases wj' <;> simp)]
    have hk := hw k (List.mem_append_right _ (.head _))
    refine E_built BO G.min bb_min <| A_cons <| E_local rfl <| A_cons <| E_built BO G.abs bb_abs <| A_cons <| E_bin <| E_sub <| E_sub <| E_local rfl <| E_un <| E_int <| neg_i <| item_list X1.wa (by simp <;> omega) (last_get wj' k) <| E_int <| item_tup (by decide) (by decide) (x := keyOf b ws k) rfl <| E_local rfl <| sub_ii <| A_nil <| abs_i <| A_nil <| min_ii hA.hd <| W1_store ?_
    have e : (if keyOf b ws k - nw b τ < 0 then -(keyOf b ws k - nw b τ) else keyOf b ws k - nw b τ) = rOf b ws k - τ := by
      unfold rOf nw at *
      cases b with
      | true => simp only [if_true] at *; split <;> omega
      | false => simp only [Bool.false_eq_true, if_false] at *; split <;> omega
    rw [e]
    have := go (min q (rOf b ws k - τ)).toNat (by omega) (by omega) fun i hi => by
      have hi' : rOf b ws k ≤ rOf b ws i := by
        rcases List.mem_append.mp hi with z | z
        · exact (List.pairwise_append.mp I.ord).2.2 i z k (.head _)
        · rw [List.mem_singleton.mp z]; exact Int.le_refl _
      omega
    rw [show (((min q (rOf b ws k - τ)).toNat : Nat) : Int) = min q (rOf b ws k - τ) by omega] at this
    refine W.weaken ?_ this
    exact Le.of ⟨rfl, rfl, rfl, rfl, rfl, rfl, rfl, rfl, rfl, rfl, trivial⟩ rfl
end Mine
end

/-! ## R2 -/
section
set_option maxRecDepth 100000
namespace Mine
open PySem PySem.W PySem.Calls PySem.SeqAt PyProof.Rows

theorem Inv.count {n : Nat} {r sz : Nat → Int} {pr : Nat → Nat → Prop} {τ : Int} {wj : List Nat} {P : List (Nat × Int)} {U : Nat → List Int} (I : Inv n r sz pr τ wj P U) : wj.length + P.length ≤ n := by
  have := nodup_le (m := List.range n) I.nd fun j hj => by simpa using I.lt j hj
  simpa using this
theorem nw_nw (b : Bool) (t : Int) : nw b (nw b t) = t := by cases b <;> simp [nw]
abbrev EndQ (b : Bool) (ws : List T) (σ : Store) (w wa he ho : Addr) (as : List Addr) (μ : Nat) (Q : AFlow → St → Prop) : Prop :=
  ∀ τ' hd wj H' U' σ'', RunAt b ws σ wa he ho as σ'' wj H' U' → Inv ws.length (rOf b ws) (szOf ws) (prB b (rkOf b ws)) τ' wj (hd.toList ++ H') U' → IsHeap (ltB b) (H'.map (trip b ws)) → wgt (szOf ws) wj (hd.toList ++ H') < μ →
      ∀ m, Sub ((Str.ofString "hand", handV b ws hd) :: lR b w wa ho he (nw b τ')) m → Q .next ⟨m, σ''⟩

section
variable {B : Bs} (BO : BOk B) (G : MG B) {A : Around} (hA : Ok 4 A) (hfi : Fn B 4 (Str.ofString "_law_first") C_first) (hla : Fn B 3 (Str.ofString "_law_laid") C_laid) (hta : Fn B 4 (Str.ofString "_law_taken") C_taken)
  {L a : Addr} {cd : Value} {b : Bool} {ws : List T} {σ σ' : Store} {w wa he ho ne : Addr} {as : List Addr} {wj : List Nat} {H N : List (Nat × Int)} {U : Nat → List Int} {p : Nat × Int} {τ : Int} {μ : Nat} {Q : AFlow → St → Prop}
include BO G hA hfi hla

theorem run_tail4 
    (WO : WOK ws) (D : Dist σ wa he ho as ws.length) (X : RunAt b ws σ wa he ho as σ' wj H U) (hof : Off σ wa he ho as ws.length ne) (hN : σ' ne = some (enc (N.map (trip b ws)))) (I : Inv ws.length (rOf b ws) (szOf ws) (prB b (rkOf b ws)) τ wj (p :: (H ++ N)) U) (hH : IsHeap (ltB b) (H.map (trip b ws))) (hw : ∀ k ∈ wj, τ < rOf b ws k)
    (hμ : wgt (szOf ws) wj (p :: (H ++ N)) ≤ μ) (hQ : EndQ b ws σ w wa he ho as μ Q) :
    WB B A (envR L a cd) (bodyR.drop 4) ⟨(Str.ofString "news", .ref ne) :: (Str.ofString "hand", .tup (trip b ws p)) :: lR b w wa ho he (nw b τ), σ'⟩ Q := by
  have hcount := I.count
  have hhi := WO.hi
  simp only [List.length_cons, List.length_append] at hcount
  refine B_cons <| S_forList hA.hd <| E_local rfl ⟨ne, (N.map (trip b ws)).map V.tup, rfl, fun i st => ∃ σ2 H2, st = ⟨(Str.ofString "news", .ref ne) :: (Str.ofString "hand", .tup (trip b ws p)) :: lR b w wa ho he (nw b τ), σ2⟩ ∧ RunAt b ws σ wa he ho as σ2 wj H2 U ∧ σ2 ne = some (enc (N.map (trip b ws))) ∧ IsHeap (ltB b) (H2.map (trip b ws)) ∧ H2.Perm (H ++ N.take i), _, Le.refl _, ⟨σ', H, rfl, X, hN, hH, by simp⟩, ?_, ?_, ?_⟩
  · rintro i st ⟨σ2, H2, rfl, _, h, _⟩
    exact h
  · rintro i x st hx ⟨σ2, H2, rfl, X2, hN2, hH2, hp2⟩
    obtain ⟨y, hy, rfl⟩ : ∃ y, N[i]? = some y ∧ x = V.tup (trip b ws y) := by
      rw [List.getElem?_map, List.getElem?_map] at hx
      cases e1 : N[i]? with
      | none => rw [e1] at hx; cases hx
      | some y => rw [e1] at hx; cases hx; exact ⟨y, rfl, rfl⟩
    have hl2 : H2.length ≤ 1000 := by
      have := hp2.length_eq
      simp only [List.length_append, List.length_take] at this
      omega
    refine A_name <| W1_store <| B_cons <| S_expr <| E_call BO (hA.mono (by omega)) hla <| A_cons <| E_local rfl <| A_cons <| E_local rfl <| A_cons <| E_local rfl <| A_nil ⟨he, H2.map (trip b ws), trip b ws y, b, rfl, X2.he, okT_trip _ _ _, rfl, hH2, by simpa using hl2, fun ys h1 h2 => ⟨rfl, B_nil ?_⟩⟩
    obtain ⟨H3, rfl, hp3⟩ := perm_lift h1 (y :: H2) rfl
    refine ⟨⟨(Str.ofString "news", .ref ne) :: (Str.ofString "hand", .tup (trip b ws p)) :: lR b w wa ho he (nw b τ), _⟩, Le.of ⟨rfl, rfl, rfl, rfl, rfl, rfl, rfl, rfl, trivial⟩ rfl, _, H3, rfl, X2.setHe D rfl, ?_, h2, ?_⟩
    · rw [upd_ne hof.he]; exact hN2
    · refine hp3.trans ?_
      rw [List.take_add_one, hy]
      refine (hp2.cons y).trans ?_
      rw [← List.append_assoc]
      exact (List.perm_append_comm (l₁ := H ++ N.take i) (l₂ := [y])).symm
  · rintro st ⟨σ2, H2, rfl, X2, hN2, hH2, hp2⟩
    have hp3 : H2.Perm (H ++ N) := by
      rw [List.length_map, List.length_map, List.take_length] at hp2
      exact hp2
    have hl2 : H2.length ≤ 1000 := by
      have := hp3.length_eq
      simp only [List.length_append] at this
      omega
    refine W.weaken ?_ (run_tail5 (w := w) BO G hA hfi WO D X2 (I.perm (hp3.cons p)) hH2 hw hl2 fun τ' hd H' U' σ'' e1 e2 e3 e4 => hQ τ' hd wj H' U' σ'' e1 e2 e3 (Nat.lt_of_lt_of_le (by rw [wgt_perm (hp3.cons p)] at e4; exact e4) hμ))
    exact Le.of ⟨rfl, rfl, rfl, rfl, rfl, rfl, rfl, trivial⟩ rfl

include hta
theorem run_tail3 {hd : Option (Nat × Int)} 
    (WO : WOK ws) (D : Dist σ wa he ho as ws.length) (X : RunAt b ws σ wa he ho as σ' wj H U) (hof : Off σ wa he ho as ws.length ne) (hN : σ' ne = some (enc (N.map (trip b ws)))) (I : Inv ws.length (rOf b ws) (szOf ws) (prB b (rkOf b ws)) τ wj (hd.toList ++ (H ++ N)) U) (hne : hd.toList ++ (H ++ N) ≠ []) (hH : IsHeap (ltB b) (H.map (trip b ws))) (hw : ∀ k ∈ wj, τ < rOf b ws k)
    (hμ : wgt (szOf ws) wj (hd.toList ++ (H ++ N)) ≤ μ) (hQ : EndQ b ws σ w wa he ho as μ Q) :
    WB B A (envR L a cd) (bodyR.drop 3) ⟨(Str.ofString "news", .ref ne) :: (Str.ofString "hand", handV b ws hd) :: lR b w wa ho he (nw b τ), σ'⟩ Q := by
  have hcount := I.count
  have hhi := WO.hi
  simp only [List.length_append] at hcount
  refine B_cons <| S_if <| T_cmp <| E_local rfl <| E_none <| is_none rfl ⟨_, rfl, ?_⟩
  cases hd with
  | some p =>
    rw [if_neg (by simp [handV])]
    exact B_nil (run_tail4 BO G hA hfi hla WO D X hof hN I hH hw hμ hQ)
  | none =>
    rw [if_pos (by simp [handV])]
    refine B_cons <| S_assign <| E_call BO hA hta <| A_cons <| E_local rfl <| A_cons <| E_local rfl <| A_cons <| E_local rfl <| A_nil ⟨he, ne, H.map (trip b ws), N.map (trip b ws), b, rfl, hof.he.symm, X.he, hN, okT_trip _ _ _, okT_trip _ _ _, hH, ?_, ?_, fun r ys ms h1 h2 => W1_store ?_⟩
    · intro z
      apply hne
      rw [← List.map_append] at z
      simpa using z
    · simp only [List.length_map]
      omega
    · rw [← List.map_append] at h1
      obtain ⟨l', e, hp⟩ := perm_lift h1 (H ++ N) rfl
      cases l' with
      | nil => cases e
      | cons p l =>
      rw [List.map_cons] at e
      injection e with e1 e2
      subst e1
      obtain ⟨H', N', rfl, rfl, rfl⟩ := List.map_eq_append_iff.mp e2.symm
      refine B_cons <| S_if <| T_cmp <| E_local rfl <| E_none <| is_none rfl ⟨_, rfl, ?_⟩
      rw [if_neg (by simp)]
      refine B_nil <| B_nil ?_
      refine W.weaken ?_ (run_tail4 (w := w) (N := N') BO G hA hfi hla WO D ((X.setHe D (H' := H') rfl).other hof) hof (upd_same _ _ _) (I.perm hp) h2 hw (by rw [wgt_perm hp]; exact hμ) hQ)
      exact Le.of ⟨rfl, rfl, rfl, rfl, rfl, rfl, rfl, rfl, trivial⟩ rfl

theorem run_body {hd : Option (Nat × Int)} 
    (WO : WOK ws) (D : Dist σ wa he ho as ws.length) (X : RunAt b ws σ wa he ho as σ' wj H U) (I : Inv ws.length (rOf b ws) (szOf ws) (prB b (rkOf b ws)) τ wj (hd.toList ++ H) U) (hne : wj ≠ [] ∨ hd.toList ++ H ≠ []) (hH : IsHeap (ltB b) (H.map (trip b ws)))
    (hμ : wgt (szOf ws) wj (hd.toList ++ H) ≤ μ) (hQ : EndQ b ws σ w wa he ho as μ Q) :
    WB B A (envR L a cd) bodyR ⟨(Str.ofString "hand", handV b ws hd) :: lR b w wa ho he (nw b τ), σ'⟩ Q := by
  have go : ∀ τ, Inv ws.length (rOf b ws) (szOf ws) (prB b (rkOf b ws)) τ wj (hd.toList ++ H) U → (hd.toList ++ H ≠ [] ∨ ∃ wj' k, wj = wj' ++ [k] ∧ rOf b ws k = τ) → WB B A (envR L a cd) (bodyR.drop 1) ⟨(Str.ofString "hand", handV b ws hd) :: lR b w wa ho he (nw b τ), σ'⟩ Q := by
    intro τ I hor
    have hhi := WO.hi
    refine B_cons <| S_assign <| E_list <| A_nil ⟨by simp, fun ne hne => W1_store ?_⟩
    dsimp only at hne
    have hof := X.off hne
    refine B_cons <| S_while (ι := List Nat × List (Nat × Int)) (fun i st => ∃ σ2, st = ⟨(Str.ofString "news", .ref ne) :: (Str.ofString "hand", handV b ws hd) :: lR b w wa ho he (nw b τ), σ2⟩ ∧ RunAt b ws σ wa he ho as σ2 i.1 H U ∧ σ2 ne = some (enc (i.2.map (trip b ws))) ∧
        Inv ws.length (rOf b ws) (szOf ws) (prB b (rkOf b ws)) τ i.1 (hd.toList ++ (H ++ i.2)) U ∧ (hd.toList ++ (H ++ i.2) ≠ [] ∨ ∃ wj' k, i.1 = wj' ++ [k] ∧ rOf b ws k = τ) ∧ wgt (szOf ws) i.1 (hd.toList ++ (H ++ i.2)) ≤ μ) (fun i => i.1.length) (wj, []) _
      (Le.refl _) ⟨_, rfl, X.other hof, upd_same _ _ _, by simpa using I, by simpa using hor, by simpa using hμ⟩ ?_
    rintro ⟨wj, N⟩ st ⟨σ2, rfl, X2, hN2, I2, hor2, hμ2⟩
    dsimp only at X2 hN2 I2 hor2 hμ2
    have hcount := I2.count
    simp only [List.length_append] at hcount
    refine T_and <| T_neNil hA.line64 <| E_local rfl ⟨wa, _, rfl, X2.wa, flat_enc, ?_⟩
    rw [empty_enc]
    rcases List.eq_nil_or_concat wj with rfl | ⟨wj', k, rfl⟩
    · rw [if_neg (by simp), if_neg (by simp)]
      refine run_tail3 BO G hA hfi hla hta WO D X2 hof hN2 I2 ?_ hH (by simp) hμ2 hQ
      rcases hor2 with z | ⟨_, _, z, _⟩
      · exact z
      · simp at z
    · rw [List.concat_eq_append] at *
      rw [if_pos (by cases wj' <;> simp)]
      refine T_and <| T_cmp <| E_sub <| E_sub <| E_local rfl <| E_un <| E_int <| neg_i <| item_list X2.wa (by simp <;> omega) (last_get wj' k) <| E_int <| item_tup (by decide) (by decide) (x := keyOf b ws k) rfl <| E_local rfl <| eq_ii ⟨_, rfl, ?_⟩
      by_cases hk : keyOf b ws k = nw b τ
      · rw [if_pos (by simpa using hk)]
        refine T_and_nil ?_
        rw [if_pos rfl]
        have hr : rOf b ws k = τ := by unfold rOf; rw [hk, nw_nw]
        have hkn : k < ws.length := I2.lt k (List.mem_append_left _ (List.mem_append_right _ (.head _)))
        have I3 := I2.join hr (WO.get hkn).2.1
        have hp : (hd.toList ++ (H ++ (N ++ [(k, szOf ws k)]))).Perm ((k, szOf ws k) :: (hd.toList ++ (H ++ N))) := by
          rw [← List.append_assoc, ← List.append_assoc, ← List.append_assoc]
          exact List.perm_append_comm (l₁ := (hd.toList ++ H) ++ N) (l₂ := [(k, szOf ws k)])
        refine B_cons <| S_expr <| E_append <| E_local rfl ⟨ne, rfl, ⟨_, hN2⟩, E_tail <| E_pop <| E_local rfl ⟨wa, (wj'.map (quad b ws)).map V.tup, .tup (quad b ws k), rfl, X2.wa.trans (by simp [enc]), _, [rkOf b ws k, k, szOf ws k], rfl, by simp, (N.map (trip b ws)).map V.tup, ?_, ?_, rfl, B_nil ?_⟩⟩
        · dsimp only
          rw [upd_ne hof.wa]; exact hN2
        · simp only [List.length_map]
          omega
        · refine ⟨(wj', N ++ [(k, szOf ws k)]), _, by simp, Le.refl _, _, rfl, ?_, ?_, I3.perm hp, ?_, ?_⟩
          · exact (X2.setWa D (wj' := wj') rfl).other hof
          · rw [upd_same]
            simp [enc, trip]
          · left
            simp
          · rw [wgt_perm hp, wgt_join]
            exact hμ2
      · rw [if_neg (by simpa using hk), if_neg (by simp)]
        have hkr : rOf b ws k ≠ τ := fun z => hk (by unfold rOf at z; rw [← z, nw_nw])
        have hle : τ ≤ rOf b ws k := (I2.wait k (List.mem_append_right _ (.head _))).2
        refine run_tail3 BO G hA hfi hla hta WO D X2 hof hN2 I2 ?_ hH (fun i hi => ?_) hμ2 hQ
        · rcases hor2 with z | ⟨wj2, k2, z, z2⟩
          · exact z
          · have := List.append_inj_right' z rfl
            injection this with this _
            subst this
            exact absurd z2 hkr
        · have hi' : rOf b ws k ≤ rOf b ws i := by
            rcases List.mem_append.mp hi with z | z
            · exact (List.pairwise_append.mp I2.ord).2.2 i z k (.head _)
            · rw [List.mem_singleton.mp z]; exact Int.le_refl _
          omega
  refine B_cons <| S_if <| T_and <| T_eqNil hA.line64 <| E_local rfl ⟨he, _, rfl, X.he, flat_enc, ?_⟩
  rw [empty_enc]
  cases H with
  | cons y H =>
    rw [if_neg (by simp), if_neg (by simp)]
    exact B_nil <| go τ I (.inl (by simp))
  | nil =>
    rw [if_pos (by simp)]
    refine T_and <| T_cmp <| E_local rfl <| E_none <| is_none rfl ⟨_, rfl, ?_⟩
    cases hd with
    | some p =>
      rw [if_neg (by simp [handV]), if_neg (by simp)]
      exact B_nil <| go τ I (.inl (by simp))
    | none =>
      rw [if_pos (by simp [handV])]
      refine T_and_nil ?_
      rw [if_pos rfl]
      rcases List.eq_nil_or_concat wj with rfl | ⟨wj', k, rfl⟩
      · simp at hne
      · rw [List.concat_eq_append] at *
        refine B_cons <| S_assign <| E_sub <| E_sub <| E_local rfl <| E_un <| E_int <| neg_i <| item_list X.wa (by simp <;> omega) (last_get wj' k) <| E_int <| item_tup (by decide) (by decide) (x := keyOf b ws k) rfl <| W1_store <| B_nil ?_
        have := go (rOf b ws k) I.jump (.inr ⟨wj', k, rfl, rfl⟩)
        refine W.weaken ?_ this
        refine Le.of ⟨rfl, rfl, rfl, rfl, rfl, rfl, ?_, trivial⟩ rfl
        unfold rOf
        rw [nw_nw]
        rfl
end
end Mine
end

/-! ## R3 -/
section
set_option maxRecDepth 100000
namespace Mine
open PySem PySem.W PySem.Calls PySem.SeqAt PyProof.Rows

theorem rowsAt_of {σ : Store} : ∀ (as : List Addr) (f : Nat → List Int), (∀ j, j < as.length → σ (as.getD j 0) = some (.list ((f j).map V.int))) → RowsAt σ as ((List.range as.length).map f)
  | [], f, _ => trivial
  | a :: as, f, h => by
    rw [List.length_cons, List.range_succ_eq_map, List.map_cons, List.map_map]
    refine ⟨h 0 (by simp), rowsAt_of as (f ∘ Nat.succ) fun j hj => ?_⟩
    exact h (j + 1) (by simpa using hj)
def C_run : Con := fun Vs σ Q => ∃ (w : Addr) (ws : List T) (b : Bool), Vs = [.ref w, .bool b] ∧ σ w = some (enc ws) ∧ WOK ws ∧
  ∀ a as σ' U, (∀ c o, σ c = some o → σ' c = some o) → σ' a = some (.list (as.map V.ref)) → RowsAt σ' as ((List.range ws.length).map fun j => (U j).map (hr b)) → as.length = ws.length → (∀ j, j < ws.length → σ' (as.getD j 0) = some (rowV b (U j))) → Sched ws.length (rOf b ws) (szOf ws) (prB b (rkOf b ws)) U → Q (.ref a) σ'

theorem quad_le {b : Bool} {ws : List T} {i j : Nat} (h : lexlt (quad b ws i) (quad b ws j) = true) : keyOf b ws i ≤ keyOf b ws j := by
  simp only [quad, lexlt] at h
  by_cases e : keyOf b ws i = keyOf b ws j
  · omega
  · rw [if_neg e] at h
    have := of_decide_eq_true h
    omega
theorem quad_pre {b : Bool} {ws : List T} (h : WOK ws) : SortPre ((List.range ws.length).map (quad b ws)) where
  ne := fun t ht => by obtain ⟨j, _, rfl⟩ := List.mem_map.mp ht; simp [quad]
  len := fun t ht t' ht' => by obtain ⟨j, _, rfl⟩ := List.mem_map.mp ht; obtain ⟨j', _, rfl⟩ := List.mem_map.mp ht'; rfl
  nd := by
    refine List.Pairwise.map _ ?_ List.nodup_range
    intro i j hij z
    simp [quad] at z
    omega
  two := by have := h.lo; simp; omega
  few := by have := h.hi; simp; omega

theorem law_run_ok {B : Bs} (BO : BOk B) (G : MG B) (hfi : Fn B 4 (Str.ofString "_law_first") C_first) (hla : Fn B 3 (Str.ofString "_law_laid") C_laid) (hta : Fn B 4 (Str.ofString "_law_taken") C_taken) {a : Addr} (D : DefN B 16 a) : FnOK B 5 a C_run := by
  refine fn_intro BO D ?_ (fun pm cd doc vs hv => by obtain ⟨_, _, rfl⟩ := len2 hv; rfl) (fun vs hv => by obtain ⟨_, _, rfl⟩ := len2 hv; exact locs (by rfl))
  rintro A cd L Vs σ Q hA ⟨w, ws, b, rfl, hw, WO, hQ⟩
  refine ⟨rfl, ?_⟩
  have hhi := WO.hi
  have hlo := WO.lo
  refine B_cons <| S_assign <| E_list <| A_nil ⟨by simp, fun w0 hw0 => W1_store ?_⟩
  dsimp only at hw0
  have hww0 : w ≠ w0 := (none_ne hw0 hw).symm
  refine B_cons <| S_forRange BO G.range hA.hd <| E_built BO G.len bb_len <| A_cons <| E_local rfl <| A_nil <| len_l ((upd_ne hww0).trans hw) ⟨_, rfl, by simp; omega, fun i st => st = ⟨[(Str.ofString "works", .ref w), (Str.ofString "back", .bool b), (Str.ofString "waits", .ref w0)], upd σ w0 (enc ((List.range i).map (quad b ws)))⟩, _, ?_, rfl, ?_, ?_⟩
  · exact Le.of ⟨rfl, rfl, rfl, trivial⟩ rfl
  · rintro i st hi rfl
    rw [List.length_map] at hi
    have hg := (WO.get hi).1
    have fin : ∀ m, Sub [(Str.ofString "works", .ref w), (Str.ofString "back", .bool b), (Str.ofString "waits", .ref w0)] m → ∃ st', Le st' ⟨m, upd (upd σ w0 (enc ((List.range i).map (quad b ws)))) w0 (.list (((List.range i).map (quad b ws)).map V.tup ++ [.tup (quad b ws i)]))⟩ ∧
        st' = ⟨[(Str.ofString "works", .ref w), (Str.ofString "back", .bool b), (Str.ofString "waits", .ref w0)], upd σ w0 (enc ((List.range (i + 1)).map (quad b ws)))⟩ := by
      intro m hm
      refine ⟨_, Le.of hm ?_, rfl⟩
      rw [upd_upd, List.range_succ]
      congr 1
      simp
    refine A_name <| W1_store <| B_cons <| S_unpack <| E_sub <| E_local rfl <| E_local rfl <| item_list ((upd_ne hww0).trans hw) (by simp; omega) (x := .tup [cmOf ws i, szOf ws i, duOf ws i]) ?_ <| A_tup [(Str.ofString "come", _), (Str.ofString "size", _), (Str.ofString "due", _)] rfl rfl hA.hd <| B_cons <| S_expr <| E_append <| E_local rfl ⟨w0, rfl, ⟨_, upd_same _ _ _⟩, E_ifexp <| T_val <| E_local rfl <| truthy_b ?_⟩
    · have : place (i : Int) (ws.map V.tup).length = i := by unfold place; simp
      rw [this, List.getElem?_map, hg]
      rfl
    · cases b with
      | true =>
        rw [if_pos rfl]
        refine E_tuple <| A_cons <| E_local rfl <| A_cons <| E_local rfl <| A_cons <| E_local rfl <| A_cons <| E_local rfl <| A_nil ⟨[_, _, _, _], rfl, by simp, _, upd_same _ _ _, by simp; omega, rfl, B_nil ?_⟩
        exact fin _ ⟨rfl, rfl, rfl, trivial⟩
      | false =>
        rw [if_neg (by simp)]
        refine E_tuple <| A_cons <| E_local rfl <| A_cons <| E_local rfl <| A_cons <| E_local rfl <| A_cons <| E_local rfl <| A_nil ⟨[_, _, _, _], rfl, by simp, _, upd_same _ _ _, by simp; omega, rfl, B_nil ?_⟩
        exact fin _ ⟨rfl, rfl, rfl, trivial⟩
  rintro st rfl
  rw [List.length_map]
  refine B_cons <| S_assign <| E_builtKw BO G.sorted bb_sorted <| E_local rfl <| E_un <| E_local rfl <| not_b <| sorted_lr (upd_same _ _ _) (quad_pre WO) fun wa ys hwa hys hord => W1_store ?_
  dsimp only at hwa
  obtain ⟨wj, rfl, hwj⟩ := perm_lift hys (List.range ws.length) rfl
  have hwaw0 := (upd_none hwa).1
  have hnwa := (upd_none hwa).2
  have hordr : wj.Pairwise (fun i j => rOf b ws j ≤ rOf b ws i) := by
    unfold rOf nw
    cases b with
    | true =>
      have h9 : (wj.map (quad true ws)).Pairwise (fun x y => lexlt x y = true) := hord
      rw [List.pairwise_map] at h9
      exact h9.imp fun h => by have := quad_le h; simp only [if_true]; omega
    | false =>
      have h9 : (wj.map (quad false ws)).Pairwise (fun x y => lexlt y x = true) := hord
      rw [List.pairwise_map] at h9
      exact h9.imp fun h => by have := quad_le h; simp only [Bool.false_eq_true, if_false]; exact this
  generalize hσ1 : upd (upd σ w0 (enc ((List.range ws.length).map (quad b ws)))) wa (.list ((wj.map (quad b ws)).map V.tup)) = σ1
  have old1 : ∀ c o, σ c = some o → σ1 c = some o := fun c o e => by
    rw [← hσ1, upd_ne (fun z => by rw [z, hnwa] at e; cases e), upd_ne (fun z => by rw [z, hw0] at e; cases e)]
    exact e
  have hwa1 : σ1 wa = some (enc (wj.map (quad b ws))) := by rw [← hσ1, upd_same]
  have nold1 : ∀ c, σ1 c = none → σ c = none := fun c e => by
    cases e2 : σ c with
    | none => rfl
    | some o => rw [old1 c o e2] at e; cases e
  refine B_cons <| S_assignComp hA.hd rfl <| E_local rfl ⟨w, _, rfl, old1 _ _ hw, by simp; omega, comp_rows (fun τ' h => h _ _ (old1 _ _ hw)) fun ho as τ' hl hho h1 h2 h3 h4 => W1_store ?_⟩
  dsimp only at hho h2 h3
  rw [List.length_map] at hl h3 h4
  have hho' : σ1 ho = none := hho
  refine B_cons <| S_assign <| E_list <| A_nil ⟨by simp, fun he hhe => W1_store ?_⟩
  dsimp only at hhe
  have hwat : τ' wa = some (enc (wj.map (quad b ws))) := h2 _ _ hwa1
  have hheo : σ1 he = none := by
    cases e2 : σ1 he with
    | none => rfl
    | some o => rw [h2 he o e2] at hhe; cases hhe
  have DD : Dist σ wa he ho as ws.length := {
    len := hl
    nwa := hnwa
    nhe := nold1 _ hheo
    nho := nold1 _ hho'
    nrow := fun j hj => nold1 _ (h3 j hj).2.1
    wahe := (none_ne hhe hwat).symm
    waho := (none_ne hho' hwa1).symm
    heho := none_ne hhe h1
    rwa := fun j hj => none_ne (h3 j hj).2.1 hwa1
    rhe := fun j hj => (none_ne hhe (h3 j hj).1).symm
    rho := fun j hj => (h3 j hj).2.2
    inj := h4 }
  have X0 : RunAt b ws σ wa he ho as (upd τ' he (.list [])) wj [] (fun _ => []) := {
    old := fun c o e => by
      rw [upd_ne (fun z => by rw [z, nold1 _ hheo] at e; cases e)]
      exact h2 _ _ (old1 _ _ e)
    wa := by rw [upd_ne DD.wahe]; exact hwat
    he := upd_same _ _ _
    ho := by rw [upd_ne DD.heho.symm]; exact h1
    row := fun j hj => by rw [upd_ne (DD.rhe j hj)]; exact (h3 j hj).1 }
  refine B_cons <| S_assign <| E_none <| W1_store ?_
  rcases List.eq_nil_or_concat wj with rfl | ⟨wj', k, rfl⟩
  · have := hwj.length_eq
    simp at this
    omega
  rw [List.concat_eq_append] at *
  refine B_cons <| S_assign <| E_sub <| E_sub <| E_local rfl <| E_un <| E_int <| neg_i <| item_list X0.wa (by simp <;> omega) (last_get wj' k) <| E_int <| item_tup (by decide) (by decide) (x := keyOf b ws k) rfl <| W1_store ?_
  have I0 : Inv ws.length (rOf b ws) (szOf ws) (prB b (rkOf b ws)) (rOf b ws k) (wj' ++ [k]) [] (fun _ => []) := Inv.start hwj hordr fun i hi => by
    rcases List.mem_append.mp hi with z | z
    · exact (List.pairwise_append.mp hordr).2.2 i z k (.head _)
    · rw [List.mem_singleton.mp z]; exact Int.le_refl _
  refine B_cons <| S_while (ι := Int × List Nat × Option (Nat × Int) × List (Nat × Int) × (Nat → List Int)) (fun i st => ∃ σ2, st = ⟨(Str.ofString "hand", handV b ws i.2.2.1) :: lR b w wa ho he (nw b i.1), σ2⟩ ∧ RunAt b ws σ wa he ho as σ2 i.2.1 i.2.2.2.1 i.2.2.2.2 ∧
      Inv ws.length (rOf b ws) (szOf ws) (prB b (rkOf b ws)) i.1 i.2.1 (i.2.2.1.toList ++ i.2.2.2.1) i.2.2.2.2 ∧ IsHeap (ltB b) (i.2.2.2.1.map (trip b ws))) (fun i => wgt (szOf ws) i.2.1 (i.2.2.1.toList ++ i.2.2.2.1)) (rOf b ws k, wj' ++ [k], none, [], fun _ => [])
      ⟨(Str.ofString "hand", handV b ws none) :: lR b w wa ho he (nw b (rOf b ws k)), upd τ' he (.list [])⟩ ?_ ⟨_, rfl, X0, I0, heap_nil⟩ ?_
  · refine Le.of ⟨rfl, rfl, rfl, rfl, rfl, rfl, ?_, trivial⟩ rfl
    unfold rOf
    rw [nw_nw]
    rfl
  · rintro ⟨τ, wj, hd, H, U⟩ st ⟨σ2, rfl, X2, I2, hH2⟩
    dsimp only at X2 I2 hH2
    have body : (wj ≠ [] ∨ hd.toList ++ H ≠ []) → WB B A (envR L a cd) bodyR ⟨(Str.ofString "hand", handV b ws hd) :: lR b w wa ho he (nw b τ), σ2⟩ (LoopQ (fun (i : Int × List Nat × Option (Nat × Int) × List (Nat × Int) × (Nat → List Int)) st => ∃ σ2, st = ⟨(Str.ofString "hand", handV b ws i.2.2.1) :: lR b w wa ho he (nw b i.1), σ2⟩ ∧ RunAt b ws σ wa he ho as σ2 i.2.1 i.2.2.2.1 i.2.2.2.2 ∧
      Inv ws.length (rOf b ws) (szOf ws) (prB b (rkOf b ws)) i.1 i.2.1 (i.2.2.1.toList ++ i.2.2.2.1) i.2.2.2.2 ∧ IsHeap (ltB b) (i.2.2.2.1.map (trip b ws))) (fun i => wgt (szOf ws) i.2.1 (i.2.2.1.toList ++ i.2.2.2.1)) (τ, wj, hd, H, U) (Then B A (envR L a cd) ((fBody (stmtAt 16)).drop 8) fun f st => Q (retV f) st.σ)) := fun hne => by
      refine run_body BO G hA hfi hla hta WO DD X2 I2 hne hH2 (Nat.le_refl _) ?_
      intro τ3 hd3 wj3 H3 U3 σ3 X3 I3 hH3 hlt m hm
      exact ⟨(τ3, wj3, hd3, H3, U3), _, hlt, Le.of hm rfl, σ3, rfl, X3, I3, hH3⟩
    refine T_or <| T_neNil hA.line64 <| E_local rfl ⟨wa, _, rfl, X2.wa, flat_enc, ?_⟩
    rw [empty_enc]
    cases wj with
    | cons x wj =>
      rw [if_pos (by simp), if_pos rfl]
      exact body (.inl (by simp))
    | nil =>
      rw [if_neg (by simp)]
      refine T_or <| T_neNil hA.line64 <| E_local rfl ⟨he, _, rfl, X2.he, flat_enc, ?_⟩
      rw [empty_enc]
      cases H with
      | cons x H =>
        rw [if_pos (by simp), if_pos rfl]
        exact body (.inr (by simp))
      | nil =>
        rw [if_neg (by simp)]
        refine T_or <| T_cmp <| E_local rfl <| E_none <| isNot_none rfl ⟨_, rfl, ?_⟩
        cases hd with
        | some p =>
          rw [if_pos (by simp [handV]), if_pos rfl]
          exact body (.inr (by simp))
        | none =>
          rw [if_neg (by simp [handV])]
          refine T_or_nil ?_
          rw [if_neg (by simp)]
          refine B_cons <| S_ret <| E_local rfl <| hQ ho as σ2 U X2.old X2.ho ?_ hl X2.row (Inv.sched I2)
          have := rowsAt_of (σ := σ2) as (fun j => (U j).map (hr b)) fun j hj => by
            rw [List.map_map]
            exact X2.row j (by omega)
          rw [hl] at this
          exact this
end Mine
end

/-! ## SL -/
section
set_option maxRecDepth 100000
namespace Mine
open PySem PySem.W PySem.Calls PySem.SeqAt PyProof.Rows

structure SlD (σ1 : Store) (ta : Addr) (as : List Addr) (n : Nat) : Prop where
  len : as.length = n
  nta : σ1 ta = none
  nrow : ∀ j, j < n → σ1 (as.getD j 0) = none
  rta : ∀ j, j < n → as.getD j 0 ≠ ta
  inj : ∀ i j, i < n → j < n → as.getD i 0 = as.getD j 0 → i = j
structure SlAt (σ1 : Store) (ta : Addr) (as : List Addr) (n : Nat) (σ' : Store) (tk : List Int) (R : Nat → List Int) : Prop where
  old : ∀ d o, σ1 d = some o → σ' d = some o
  ta : σ' ta = some (.list (tk.map V.int))
  row : ∀ j, j < n → σ' (as.getD j 0) = some (.list ((R j).map V.int))
section
variable {σ1 : Store} {ta : Addr} {as : List Addr} {n : Nat} {σ' : Store} {tk : List Int} {R : Nat → List Int}
theorem SlAt.setTa (D : SlD σ1 ta as n) (X : SlAt σ1 ta as n σ' tk R) {tk' : List Int} {o : AO} (ho : o = .list (tk'.map V.int)) : SlAt σ1 ta as n (upd σ' ta o) tk' R where
  old := fun d o e => by rw [upd_ne (fun z => by rw [z, D.nta] at e; cases e)]; exact X.old d o e
  ta := by rw [upd_same, ho]
  row := fun j hj => by rw [upd_ne (D.rta j hj)]; exact X.row j hj
theorem SlAt.setRow (D : SlD σ1 ta as n) (X : SlAt σ1 ta as n σ' tk R) {j : Nat} (hj : j < n) {R' : Nat → List Int} {o : AO} (ho : o = .list ((R' j).map V.int)) (hR : ∀ i, i ≠ j → R' i = R i) : SlAt σ1 ta as n (upd σ' (as.getD j 0) o) tk R' where
  old := fun d o e => by rw [upd_ne (fun z => by rw [z, D.nrow j hj] at e; cases e)]; exact X.old d o e
  ta := by rw [upd_ne (D.rta j hj).symm]; exact X.ta
  row := fun i hi => by
    by_cases e : i = j
    · subst e; rw [upd_same, ho]
    · rw [upd_ne (fun z => e (D.inj i j hi hj z)), hR i e]; exact X.row i hi
end
def pairT (ws : List T) (j : Nat) : T := [duOf ws j, (j : Int)]
theorem pair_lt {ws : List T} {i j : Nat} (h : lexlt (pairT ws i) (pairT ws j) = true) : duOf ws i < duOf ws j ∨ (duOf ws i = duOf ws j ∧ i < j) := by
  simp only [pairT, lexlt] at h
  by_cases e : duOf ws i = duOf ws j
  · rw [if_pos e] at h
    by_cases e2 : (i : Int) = (j : Int)
    · rw [if_pos e2] at h; cases h
    · rw [if_neg e2] at h
      have := of_decide_eq_true h
      right
      omega
  · rw [if_neg e] at h
    have := of_decide_eq_true h
    omega
theorem pair_pre {ws : List T} (h : WOK ws) : SortPre ((List.range ws.length).map (pairT ws)) where
  ne := fun t ht => by obtain ⟨j, _, rfl⟩ := List.mem_map.mp ht; simp [pairT]
  len := fun t ht t' ht' => by obtain ⟨j, _, rfl⟩ := List.mem_map.mp ht; obtain ⟨j', _, rfl⟩ := List.mem_map.mp ht'; rfl
  nd := by
    refine List.Pairwise.map _ ?_ List.nodup_range
    intro i j hij z
    simp [pairT] at z
    omega
  two := by have := h.lo; simp; omega
  few := by have := h.hi; simp; omega
theorem works_get {ws : List T} (WO : WOK ws) {j : Nat} (hj : j < ws.length) : (ws.map V.tup)[place (j : Int) (ws.map V.tup).length]? = some (.tup [cmOf ws j, szOf ws j, duOf ws j]) := by
  have : place (j : Int) (ws.map V.tup).length = j := by unfold place; simp
  rw [this, List.getElem?_map, (WO.get hj).1]
  rfl
theorem refs_get {as : List Addr} {j : Nat} (hj : j < as.length) : (as.map V.ref)[place (j : Int) (as.map V.ref).length]? = some (.ref (as.getD j 0)) := by
  have : place (j : Int) (as.map V.ref).length = j := by unfold place; simp
  rw [this, List.getElem?_map, List.getElem?_eq_getElem hj]
  simp [hj]
def C_slots : Con := fun Vs σ Q => ∃ (w : Addr) (ws : List T) (U : Nat → List Int), Vs = [.ref w] ∧ σ w = some (enc ws) ∧ WOK ws ∧ Sched ws.length (rOf false ws) (szOf ws) (prB false (rkOf false ws)) U ∧
  ∀ a as σ', (∀ c o, σ c = some o → σ' c = some o) → σ' a = some (.list (as.map V.ref)) → RowsAt σ' as ((List.range ws.length).map U) → Q (.ref a) σ'

theorem law_slots_ok {B : Bs} (BO : BOk B) (G : MG B) {a : Addr} (D : DefN B 17 a) : FnOK B 2 a C_slots := by
  refine fn_introC1 (x := Str.ofString "works") BO D ?_ (fun pm cd doc v => rfl) rfl (fun L => rfl)
  rintro A cd L Vs σ Q hA ⟨w, ws, U, rfl, hw, WO, SC, hQ⟩
  refine ⟨_, rfl, fun hc0 => ?_⟩
  have hhi := WO.hi
  have hlo := WO.lo
  generalize hσ0 : upd σ (L + 1) (.cell (some (V.ref w))) = σ0
  have old0 : ∀ c o, σ c = some o → σ0 c = some o := fun c o e => by
    rw [← hσ0, upd_ne (fun z => by rw [z, hc0] at e; cases e)]
    exact e
  have hcell : σ0 (L + 1) = some (.cell (some (V.ref w))) := by rw [← hσ0, upd_same]
  refine B_cons <| S_assign <| E_list <| A_nil ⟨by simp, fun ta hta => W1_store ?_⟩
  dsimp only at hta
  have up : ∀ c o, σ0 c = some o → upd σ0 ta (.list []) c = some o := fun c o e => by
    rw [upd_ne (fun z => by rw [z, hta] at e; cases e)]; exact e
  refine B_cons <| S_assignComp hA.hd rfl <| E_cell rfl (up _ _ hcell) ⟨w, _, rfl, up _ _ (old0 _ _ hw), by simp; omega, comp_rows (fun τ' h => h _ _ (up _ _ (old0 _ _ hw))) fun ho as τ' hl hho h1 h2 h3 h4 => W1_store ?_⟩
  dsimp only at hho h2 h3
  rw [List.length_map] at hl h3 h4
  have up2 : ∀ c o, σ0 c = some o → τ' c = some o := fun c o e => h2 _ _ (up _ _ e)
  have hta2 : τ' ta = some (.list []) := h2 _ _ (upd_same _ _ _)
  refine B_cons <| S_forTups hA.hd <| E_built BO G.sorted bb_sorted <| A_cons <| E_compRange BO G.range hA.hd rfl <| E_built BO G.len bb_len <| A_cons <| E_cell rfl (up2 _ _ hcell) <| A_nil <| len_l (up2 _ _ (old0 _ _ hw)) ⟨_, rfl, by simp; omega, fun D hD => ⟨fun i acc τ => acc = ((List.range i).map (pairT ws)).map V.tup ∧ τ = upd τ' D (.list acc), ⟨?_, ?_⟩, ⟨rfl, rfl⟩, ?_⟩⟩
  · rintro i acc τ ⟨rfl, rfl⟩
    exact ⟨trivial, upd_same _ _ _, by simp⟩
  · rintro i acc τ C hi ⟨rfl, rfl⟩
    dsimp only at hD
    rw [List.length_map] at hi
    have up3 : ∀ c o, τ' c = some o → upd τ' D (.list (((List.range i).map (pairT ws)).map V.tup)) c = some o := fun c o e => by
      rw [upd_ne (fun z => by rw [z, hD] at e; cases e)]; exact e
    refine C_nil ?_
    rw [if_pos rfl]
    refine E_tuple <| A_cons <| E_sub <| E_sub <| E_cell rfl (up3 _ _ (up2 _ _ hcell)) <| E_local rfl <| item_list (up3 _ _ (up2 _ _ (old0 _ _ hw))) (by simp; omega) (works_get WO hi) <| E_int <| item_tup (by decide) (by decide) (x := duOf ws i) rfl <| A_cons <| E_local rfl <| A_nil ⟨[_, _], rfl, by simp, upd_same _ _ _, ?_, ?_⟩
    · rw [List.range_succ]
      simp [pairT]
    · dsimp only
      rw [upd_upd]
  rintro acc τ ⟨rfl, rfl⟩
  dsimp only at hD
  rw [List.length_map]
  refine A_nil <| sorted_l (upd_same _ _ _) (pair_pre WO) fun so ys hso hys hord => ?_
  dsimp only at hso
  obtain ⟨wj, rfl, hwj⟩ := perm_lift hys (List.range ws.length) rfl
  have hordr : wj.Pairwise (fun i j => lexlt (pairT ws i) (pairT ws j) = true) := by
    have h9 : (wj.map (pairT ws)).Pairwise (fun x y => lexlt x y = true) := hord
    rw [List.pairwise_map] at h9
    exact h9
  have hnd : wj.Nodup := hwj.nodup_iff.mpr List.nodup_range
  have hmem : ∀ k, k ∈ wj ↔ k < ws.length := fun k => by rw [hwj.mem_iff]; simp
  generalize hτ4 : upd (upd τ' D (.list (((List.range ws.length).map (pairT ws)).map V.tup))) so (.list ((wj.map (pairT ws)).map V.tup)) = τ4
  have up4 : ∀ c o, τ' c = some o → τ4 c = some o := fun c o e => by
    rw [← hτ4, upd_ne (fun z => by rw [z] at e; rw [(upd_none hso).2] at e; cases e), upd_ne (fun z => by rw [z, hD] at e; cases e)]
    exact e
  have hso4 : τ4 so = some (enc (wj.map (pairT ws))) := by rw [← hτ4, upd_same]
  have hsoN : τ' so = none := (upd_none hso).2
  -- the frame: all but what the loop writes
  generalize hσ1 : (fun d => if d = ta ∨ d ∈ as then none else τ4 d : Store) = σ1
  have inAs : ∀ d, d ∈ as → ∃ j, j < ws.length ∧ as.getD j 0 = d := fun d hd => by
    obtain ⟨j, hj, e⟩ := List.mem_iff_getElem.mp hd
    exact ⟨j, by omega, by simp [hj, e]⟩
  have toAs : ∀ j, j < ws.length → as.getD j 0 ∈ as := fun j hj => by
    have hj' : j < as.length := by omega
    simp [hj']
  have at1 : ∀ d, d ≠ ta → d ∉ as → σ1 d = τ4 d := fun d q1 q2 => by
    rw [← hσ1]
    show (if d = ta ∨ d ∈ as then none else τ4 d) = τ4 d
    rw [if_neg (fun z => z.elim q1 q2)]
  have free0 : ∀ c o, σ0 c = some o → c ≠ ta ∧ c ∉ as := fun c o e => ⟨fun z => (by rw [z, hta] at e; cases e), fun z => by
    obtain ⟨j, hj, rfl⟩ := inAs c z
    have := (h3 j hj).2.1
    rw [up _ _ e] at this
    cases this⟩
  have get1 : ∀ c o, σ0 c = some o → σ1 c = some o := fun c o e => (at1 c (free0 c o e).1 (free0 c o e).2).trans (up4 _ _ (up2 _ _ e))
  have ho1 : σ1 ho = some (.list (as.map V.ref)) := (at1 ho (fun z => by rw [z, upd_same] at hho; cases hho) (fun z => by
    obtain ⟨j, hj, e⟩ := inAs ho z
    exact (h3 j hj).2.2 e)).trans (up4 _ _ h1)
  have so1 : σ1 so = some (enc (wj.map (pairT ws))) := (at1 so (fun z => by rw [z, hta2] at hsoN; cases hsoN) (fun z => by
    obtain ⟨j, hj, e⟩ := inAs so z
    have := (h3 j hj).1
    rw [e, hsoN] at this
    cases this)).trans hso4
  have DD : SlD σ1 ta as ws.length := {
    len := hl
    nta := by rw [← hσ1]; exact if_pos (.inl rfl)
    nrow := fun j hj => by rw [← hσ1]; exact if_pos (.inr (toAs j hj))
    rta := fun j hj z => by
      have := (h3 j hj).2.1
      rw [z, upd_same] at this
      cases this
    inj := h4 }
  have X0 : SlAt σ1 ta as ws.length τ4 [] (fun _ => []) := {
    old := fun d o e => by
      rw [← hσ1] at e
      have e' : (if d = ta ∨ d ∈ as then none else τ4 d) = some o := e
      split at e'
      · cases e'
      · exact e'
    ta := up4 _ _ hta2
    row := fun j hj => up4 _ _ (h3 j hj).1 }
  refine ⟨so, wj.map (pairT ws), rfl, fun i st => ∃ σ2 tk, st = ⟨[(Str.ofString "taken", .ref ta), (Str.ofString "hours", .ref ho)], σ2⟩ ∧ SlAt σ1 ta as ws.length σ2 tk (fun k => if k ∈ wj.take i then U k else []) ∧ (∀ t, t ∈ tk ↔ ∃ k ∈ wj.take i, t ∈ U k) ∧ tk.length ≤ 3 * i, ⟨[(Str.ofString "taken", .ref ta), (Str.ofString "hours", .ref ho)], τ4⟩, Le.of ⟨rfl, rfl, trivial⟩ rfl, ⟨τ4, [], rfl, ?_, ?_, by simp⟩, ?_, ?_, ?_⟩
  · simpa using X0
  · simp
  · rintro i st ⟨σ2, tk, rfl, X, _, _⟩
    exact X.old _ _ so1
  · rintro i x st hx ⟨σ2, tk, rfl, X, htk, hlk⟩
    obtain ⟨j, hj, rfl⟩ : ∃ y, wj[i]? = some y ∧ x = pairT ws y := by
      rw [List.getElem?_map] at hx
      cases e1 : wj[i]? with
      | none => rw [e1] at hx; cases hx
      | some y => rw [e1] at hx; cases hx; exact ⟨y, rfl, rfl⟩
    obtain ⟨hi, hji⟩ := List.getElem?_eq_some_iff.mp hj
    have hjn : j < ws.length := (hmem j).mp (hji ▸ List.getElem_mem hi)
    have hin : i < ws.length := by have := hwj.length_eq; simp at this; omega
    have hsp : wj = wj.take i ++ j :: wj.drop (i + 1) := by
      have := List.take_append_drop i wj
      rw [List.drop_eq_getElem_cons hi, hji] at this
      exact this.symm
    have hnj : j ∉ wj.take i := fun z => by
      rw [hsp] at hnd
      exact (List.nodup_append.mp hnd).2.2 j z j (.head _) rfl
    have htake : wj.take (i + 1) = wj.take i ++ [j] := by rw [List.take_add_one, hj]; rfl
    have hbefore : ∀ k, k < ws.length → k ≠ j → prB false (rkOf false ws) k j → k ∈ wj.take i := fun k hk hkj hpr => by
      have hk' := (hmem k).mpr hk
      rw [hsp] at hk'
      rcases List.mem_append.mp hk' with z | z
      · exact z
      · rcases List.mem_cons.mp z with z | z
        · exact absurd z hkj
        · exfalso
          rw [hsp] at hordr
          have h9 := pair_lt ((List.pairwise_cons.mp (List.pairwise_append.mp hordr).2.1).1 k z)
          have h10 : duOf ws k < duOf ws j ∨ (duOf ws k = duOf ws j ∧ k ≤ j) := hpr
          omega
    have hszj := (WO.get hjn).2
    have hlenU := SC.len j hjn
    have hcm : rOf false ws j = cmOf ws j := rfl
    refine A_tup [(Str.ofString "due", _), (Str.ofString "j", _)] rfl rfl hA.hd ?_
    refine B_cons <| S_assign <| E_sub <| E_sub <| E_cell rfl (X.old _ _ (get1 _ _ hcell)) <| E_local rfl <| item_list (X.old _ _ (get1 _ _ (old0 _ _ hw))) (by simp; omega) (works_get WO hjn) <| E_int <| item_tup (by decide) (by decide) (x := cmOf ws j) rfl <| W1_store ?_
    refine B_cons <| S_while (ι := Int × List Int) (fun q st => ∃ σ2, st = ⟨[(Str.ofString "at", .int q.1), (Str.ofString "j", .int j), (Str.ofString "taken", .ref ta), (Str.ofString "hours", .ref ho)], σ2⟩ ∧ SlAt σ1 ta as ws.length σ2 q.2 (fun k => if k = j then (U j).filter (fun u => decide (u < q.1)) else if k ∈ wj.take i then U k else []) ∧
        (∀ t, t ∈ q.2 ↔ (∃ k ∈ wj.take i, t ∈ U k) ∨ (t ∈ U j ∧ t < q.1)) ∧ q.2.length ≤ 3 * i + ((U j).filter (fun u => decide (u < q.1))).length ∧ cmOf ws j ≤ q.1) (fun q => ahead (U j) q.1) (cmOf ws j, tk) ⟨[(Str.ofString "at", .int (cmOf ws j)), (Str.ofString "j", .int j), (Str.ofString "taken", .ref ta), (Str.ofString "hours", .ref ho)], σ2⟩ ?_ ⟨σ2, rfl, ?_, ?_, by dsimp only; omega, Int.le_refl _⟩ ?_
    · exact Le.of ⟨rfl, rfl, rfl, rfl, trivial⟩ rfl
    · have e : (fun k => if k = j then (U j).filter (fun u => decide (u < cmOf ws j)) else if k ∈ wj.take i then U k else []) = (fun k => if k ∈ wj.take i then U k else []) := by
        funext k
        by_cases z : k = j
        · subst z
          rw [if_pos rfl, if_neg hnj]
          exact filter_none fun x hx => SC.rel k x hx
        · rw [if_neg z]
      rw [e]
      exact X
    · intro t
      rw [htk]
      constructor
      · exact .inl
      · rintro (z | ⟨z1, z2⟩)
        · exact z
        · have := SC.rel j t z1
          dsimp only at z2
          omega
    · rintro ⟨t, tk⟩ st ⟨σ2, rfl, X, htk, hlk, hct⟩
      dsimp only at X htk hlk hct
      have hrow := X.row j hjn
      have hrow' : σ2 (as.getD j 0) = some (.list (((U j).filter (fun u => decide (u < t))).map V.int)) := by
        rw [hrow, if_pos rfl]
      have hja : j < as.length := by omega
      have hfl : ((U j).filter (fun u => decide (u < t))).length ≤ (U j).length := List.length_filter_le _ _
      refine T_cmp <| E_built BO G.len bb_len <| A_cons <| E_sub <| E_local rfl <| E_local rfl <| item_list (X.old _ _ ho1) (by simp; omega) (refs_get hja) <| A_nil <| len_l hrow' <| E_sub <| E_sub <| E_cell rfl (X.old _ _ (get1 _ _ hcell)) <| E_local rfl <| item_list (X.old _ _ (get1 _ _ (old0 _ _ hw))) (by simp; omega) (works_get WO hjn) <| E_int <| item_tup (by decide) (by decide) (x := szOf ws j) rfl <| lt_ii ⟨_, rfl, ?_⟩
      rw [List.length_map]
      by_cases hlt : (((U j).filter (fun u => decide (u < t))).length : Int) < szOf ws j
      · rw [if_pos (by simpa using hlt)]
        obtain ⟨u, hu, hle⟩ := filter_some (l := U j) (t := t) (by omega)
        have hdec := ahead_lt ⟨u, hu, hle⟩
        refine B_cons <| S_if <| T_cmp <| E_local rfl <| E_local rfl <| notIn_i hA.line65 X.ta ⟨_, rfl, ?_⟩
        by_cases hin : t ∈ tk
        · rw [if_neg (by simpa using hin)]
          have hnU : t ∉ U j := fun z => by
            rcases (htk t).mp hin with ⟨k, hk, hk2⟩ | ⟨_, z2⟩
            · have := SC.dis k j t hk2 z
              subst this
              exact hnj hk
            · omega
          refine B_nil <| B_cons <| S_aug rfl <| E_int <| iadd_ii <| W1_store <| B_nil ?_
          refine ⟨(t + 1, tk), _, hdec, (by exact Le.of ⟨rfl, rfl, rfl, rfl, trivial⟩ rfl), σ2, rfl, ?_, ?_, ?_, by dsimp only; omega⟩
          · dsimp only
            rw [filter_skip hnU]
            exact X
          · intro x
            dsimp only
            rw [htk]
            constructor
            · rintro (z | ⟨z1, z2⟩)
              · exact .inl z
              · exact .inr ⟨z1, by omega⟩
            · rintro (z | ⟨z1, z2⟩)
              · exact .inl z
              · have : x ≠ t := fun q => hnU (q ▸ z1)
                exact .inr ⟨z1, by omega⟩
          · dsimp only
            rw [filter_skip hnU]
            exact hlk
        · rw [if_pos (by simpa using hin)]
          have hU : t ∈ U j := by
            by_cases z : t ∈ U j
            · exact z
            · exfalso
              have hne : u ≠ t := fun q => z (q ▸ hu)
              obtain ⟨k, hk1, hk2⟩ := SC.gap j hjn t (by rw [hcm]; exact hct) ⟨u, hu, by omega⟩ z
              have hkn : k < ws.length := by
                by_cases q : k < ws.length
                · exact q
                · rw [SC.out k (by omega)] at hk1; cases hk1
              have hkj : k ≠ j := fun q => z (q ▸ hk1)
              exact hin ((htk t).mpr (.inl ⟨k, hbefore k hkn hkj hk2, hk1⟩))
          have hf := filter_succ (SC.asc j) hU
          refine B_cons <| S_expr <| E_append <| E_local rfl ⟨ta, rfl, ⟨_, X.ta⟩, E_local rfl ⟨_, X.ta, by simp; omega, rfl, ?_⟩⟩
          have X2 := X.setTa DD (tk' := tk ++ [t]) (o := .list (tk.map V.int ++ [V.int t])) (by simp)
          have hrow2 : upd σ2 ta (.list (tk.map V.int ++ [V.int t])) (as.getD j 0) = some (.list (((U j).filter (fun u => decide (u < t))).map V.int)) := by
            rw [upd_ne (DD.rta j hjn)]
            exact hrow'
          refine B_cons <| S_expr <| E_append <| E_sub <| E_local rfl <| E_local rfl <| item_list (X2.old _ _ ho1) (by simp; omega) (refs_get hja) ⟨_, rfl, ⟨_, hrow2⟩, E_local rfl ⟨_, hrow2, by simp; omega, rfl, B_nil ?_⟩⟩
          refine B_cons <| S_aug rfl <| E_int <| iadd_ii <| W1_store <| B_nil ?_
          refine ⟨(t + 1, tk ++ [t]), _, hdec, (by exact Le.of ⟨rfl, rfl, rfl, rfl, trivial⟩ rfl), _, rfl, X2.setRow DD hjn ?_ fun k hk => by rw [if_neg hk, if_neg hk], ?_, ?_, by dsimp only; omega⟩
          · dsimp only
            rw [if_pos rfl, hf]
            simp
          · intro x
            dsimp only
            rw [List.mem_append, htk]
            constructor
            · rintro ((z | ⟨z1, z2⟩) | z)
              · exact .inl z
              · exact .inr ⟨z1, by omega⟩
              · rw [List.mem_singleton.mp z]
                exact .inr ⟨hU, by omega⟩
            · rintro (z | ⟨z1, z2⟩)
              · exact .inl (.inl z)
              · by_cases q : x = t
                · exact .inr (List.mem_singleton.mpr q)
                · exact .inl (.inr ⟨z1, by omega⟩)
          · dsimp only
            rw [hf]
            simp
            omega
      · rw [if_neg (by simpa using hlt)]
        have hfull := filter_full (l := U j) (t := t) (by omega)
        refine B_nil ⟨_, (by exact Le.of ⟨rfl, rfl, trivial⟩ rfl), σ2, tk, rfl, ?_, ?_, ?_⟩
        · have e : (fun k => if k = j then (U j).filter (fun u => decide (u < t)) else if k ∈ wj.take i then U k else []) = (fun k => if k ∈ wj.take (i + 1) then U k else []) := by
            funext k
            rw [htake]
            by_cases z : k = j
            · subst z
              rw [if_pos rfl, if_pos (by simp)]
              exact hfull.2
            · rw [if_neg z]
              by_cases z2 : k ∈ wj.take i
              · rw [if_pos z2, if_pos (List.mem_append_left _ z2)]
              · rw [if_neg z2, if_neg (fun q => by
                  rcases List.mem_append.mp q with q | q
                  · exact z2 q
                  · exact z (List.mem_singleton.mp q))]
          rw [← e]
          exact X
        · intro x
          rw [htk, htake]
          constructor
          · rintro (⟨k, z1, z2⟩ | ⟨z1, z2⟩)
            · exact ⟨k, List.mem_append_left _ z1, z2⟩
            · exact ⟨j, by simp, z1⟩
          · rintro ⟨k, z1, z2⟩
            rcases List.mem_append.mp z1 with q | q
            · exact .inl ⟨k, q, z2⟩
            · rw [List.mem_singleton.mp q] at z2
              exact .inr ⟨z2, hfull.1 x z2⟩
        · omega
  · rintro st ⟨σ2, tk, rfl, X, _, _⟩
    rw [List.length_map, List.take_length] at X
    refine B_cons <| S_ret <| E_local rfl <| hQ ho as σ2 (fun c o e => X.old _ _ (get1 _ _ (old0 _ _ e))) (X.old _ _ ho1) ?_
    have := rowsAt_of (σ := σ2) as U fun j hj => by
      rw [X.row j (by omega), if_pos ((hmem j).mpr (by omega))]
    rw [hl] at this
    exact this
end Mine
end

/-! ## OW -/
section
set_option maxRecDepth 100000
namespace Mine
open PySem PySem.W PySem.Calls PySem.SeqAt PyProof.Rows

def gtV : V → V → Bool
  | .int x, .int y => decide (y < x)
  | _, _ => false
theorem pick_ints : ∀ (rest : List Int) (x : Int), ∃ m, pick gtV (.int x) (rest.map V.int) = .int m ∧ m ∈ x :: rest ∧ ∀ y ∈ x :: rest, y ≤ m
  | [], x => ⟨x, rfl, .head _, fun y hy => by rw [List.mem_singleton.mp hy]; exact Int.le_refl _⟩
  | z :: r, x => by
    show ∃ m, pick gtV (if decide (x < z) = true then V.int z else V.int x) (r.map V.int) = .int m ∧ _
    by_cases h : x < z
    · rw [if_pos (by simpa using h)]
      obtain ⟨m, h1, h2, h3⟩ := pick_ints r z
      refine ⟨m, h1, .tail _ h2, fun y hy => ?_⟩
      rcases List.mem_cons.mp hy with rfl | hy
      · have := h3 z (.head _); omega
      · exact h3 y hy
    · rw [if_neg (by simpa using h)]
      obtain ⟨m, h1, h2, h3⟩ := pick_ints r x
      refine ⟨m, h1, ?_, fun y hy => ?_⟩
      · rcases List.mem_cons.mp h2 with e | e
        · rw [e]; exact .head _
        · exact .tail _ (.tail _ e)
      · rcases List.mem_cons.mp hy with rfl | hy
        · exact h3 y (.head _)
        · rcases List.mem_cons.mp hy with rfl | hy
          · have := h3 x (.head _); omega
          · exact h3 y (.tail _ hy)
def IsMax (l : List Int) (m : Int) : Prop := m ∈ l ∧ ∀ y ∈ l, y ≤ m
theorem max_ints {B : Bs} {A : Around} {L : Addr} {st : St} {l : Addr} {ns : List Int} {Q : V → St → Prop} (hh : A.handled = none) (hl : st.σ l = some (.list (ns.map V.int))) (hne : ns ≠ []) (h : ∀ m, IsMax ns m → Q (.int m) st) : WL B A L VRep (fun vs => call (.builtin "max") vs) [.ref l] st Q := by
  cases ns with
  | nil => exact absurd rfl hne
  | cons x r =>
    obtain ⟨m, h1, h2, h3⟩ := pick_ints r x
    refine max_list (lt := gtV) (x₀ := .int x) (r := r.map V.int) hh ?_ hl (by rw [h1]; exact h m ⟨h2, h3⟩)
    intro u v hu hv st
    have toI : ∀ u, u ∈ V.int x :: r.map V.int → ∃ i, u = V.int i := fun u hu => by
      rcases List.mem_cons.mp hu with rfl | hu
      · exact ⟨x, rfl⟩
      · obtain ⟨i, _, rfl⟩ := List.mem_map.mp hu
        exact ⟨i, rfl⟩
    obtain ⟨i, rfl⟩ := toI u hu
    obtain ⟨j, rfl⟩ := toI v hv
    exact gt_ii ⟨rfl, rfl⟩

def inG (c d : Int) (t : T) : Bool := decide (c ≤ t.getD 0 0) && decide (t.getD 2 0 ≤ d)
def groupT (c d : Int) (ws : List T) : List Int := (ws.filter (inG c d)).map fun t => t.getD 1 0
def owe (ws : List T) (o p : T) : List Int := if groupT (o.getD 0 0) (p.getD 2 0) ws = [] then [] else [o.getD 0 0 + (groupT (o.getD 0 0) (p.getD 2 0) ws).sum - p.getD 2 0]
def owedOf (ws : List T) : List Int := ws.flatMap fun o => ws.flatMap fun p => owe ws o p
theorem owe_len (ws : List T) (o p : T) : (owe ws o p).length ≤ 1 := by unfold owe; split <;> simp
theorem group_bd {ws : List T} (WO : WOK ws) {c d : Int} : ∀ x ∈ groupT c d ws, 0 ≤ x ∧ x ≤ 3 := fun x hx => by
  obtain ⟨t, ht, rfl⟩ := List.mem_map.mp hx
  obtain ⟨c, s, d, rfl, h1, h2⟩ := WO.row t (List.mem_filter.mp ht).1
  exact ⟨by show 0 ≤ s; omega, h2⟩
theorem group_len {ws : List T} {c d : Int} : (groupT c d ws).length ≤ ws.length := by
  unfold groupT
  rw [List.length_map]
  exact List.length_filter_le _ _
theorem owed_self {ws : List T} {t : T} (ht : t ∈ ws) : ∃ x, x ∈ owedOf ws := by
  have hg : groupT (t.getD 0 0) (t.getD 2 0) ws ≠ [] := fun z => by
    have : t.getD 1 0 ∈ groupT (t.getD 0 0) (t.getD 2 0) ws := List.mem_map.mpr ⟨t, List.mem_filter.mpr ⟨ht, by simp [inG]⟩, rfl⟩
    rw [z] at this
    cases this
  refine ⟨t.getD 0 0 + (groupT (t.getD 0 0) (t.getD 2 0) ws).sum - t.getD 2 0, List.mem_flatMap.mpr ⟨t, ht, List.mem_flatMap.mpr ⟨t, ht, ?_⟩⟩⟩
  unfold owe
  rw [if_neg hg]
  exact .head _

structure OwAt (σ : Store) (c1 c2 ow : Addr) (σ' : Store) (v1 v2 : Option V) (l : List Int) : Prop where
  old : ∀ d o, σ d = some o → σ' d = some o
  c1 : σ' c1 = some (.cell v1)
  c2 : σ' c2 = some (.cell v2)
  ow : σ' ow = some (.list (l.map V.int))
structure OwD (σ : Store) (c1 c2 ow : Addr) : Prop where
  n1 : σ c1 = none
  n2 : σ c2 = none
  n3 : σ ow = none
  d12 : c1 ≠ c2
  d1 : ow ≠ c1
  d2 : ow ≠ c2
section
variable {σ σ' : Store} {c1 c2 ow : Addr} {v1 v2 : Option V} {l : List Int}
theorem OwAt.set1 (D : OwD σ c1 c2 ow) (X : OwAt σ c1 c2 ow σ' v1 v2 l) {v : Option V} : OwAt σ c1 c2 ow (upd σ' c1 (.cell v)) v v2 l where
  old := fun d o e => by rw [upd_ne (fun z => by rw [z, D.n1] at e; cases e)]; exact X.old d o e
  c1 := upd_same _ _ _
  c2 := by rw [upd_ne D.d12.symm]; exact X.c2
  ow := by rw [upd_ne D.d1]; exact X.ow
theorem OwAt.set2 (D : OwD σ c1 c2 ow) (X : OwAt σ c1 c2 ow σ' v1 v2 l) {v : Option V} : OwAt σ c1 c2 ow (upd σ' c2 (.cell v)) v1 v l where
  old := fun d o e => by rw [upd_ne (fun z => by rw [z, D.n2] at e; cases e)]; exact X.old d o e
  c1 := by rw [upd_ne D.d12]; exact X.c1
  c2 := upd_same _ _ _
  ow := by rw [upd_ne D.d2]; exact X.ow
theorem OwAt.setOw (D : OwD σ c1 c2 ow) (X : OwAt σ c1 c2 ow σ' v1 v2 l) {l' : List Int} {o : AO} (ho : o = .list (l'.map V.int)) : OwAt σ c1 c2 ow (upd σ' ow o) v1 v2 l' where
  old := fun d o e => by rw [upd_ne (fun z => by rw [z, D.n3] at e; cases e)]; exact X.old d o e
  c1 := by rw [upd_ne D.d1.symm]; exact X.c1
  c2 := by rw [upd_ne D.d2.symm]; exact X.c2
  ow := by rw [upd_same, ho]
theorem OwAt.fresh (X : OwAt σ c1 c2 ow σ' v1 v2 l) {c : Addr} (h : σ' c = none) {o : AO} : OwAt σ c1 c2 ow (upd σ' c o) v1 v2 l where
  old := fun d o e => by rw [upd_ne (none_ne h (X.old d o e)).symm]; exact X.old d o e
  c1 := by rw [upd_ne (none_ne h X.c1).symm]; exact X.c1
  c2 := by rw [upd_ne (none_ne h X.c2).symm]; exact X.c2
  ow := by rw [upd_ne (none_ne h X.ow).symm]; exact X.ow
end
theorem works_getD {ws : List T} (WO : WOK ws) {i : Nat} (hi : i < ws.length) : (ws.map V.tup).getD i .none = .tup [cmOf ws i, szOf ws i, duOf ws i] := by
  rw [List.getD_eq_getElem?_getD, List.getElem?_map, (WO.get hi).1]
  rfl
def C_owed : Con := fun Vs σ Q => ∃ (w : Addr) (ws : List T), Vs = [.ref w] ∧ σ w = some (enc ws) ∧ WOK ws ∧ ∀ m σ', (∀ c o, σ c = some o → σ' c = some o) → IsMax (owedOf ws) m → Q (.int m) σ'

theorem law_owed_ok {B : Bs} (BO : BOk B) (G : MG B) {a : Addr} (D : DefN B 18 a) : FnOK B 2 a C_owed := by
  refine fn_introC2 (x := Str.ofString "works") (y := Str.ofString "one") (z := Str.ofString "other") BO D ?_ (fun pm cd doc v => rfl) rfl (fun L => rfl) (by decide) (by decide) (by decide)
  rintro A cd L Vs σ Q hA ⟨w, ws, rfl, hw, WO, hQ⟩
  refine ⟨_, rfl, fun hc1 hc2 => ?_⟩
  have hhi := WO.hi
  have hlo := WO.lo
  refine B_cons <| S_assign <| E_list <| A_nil ⟨by simp, fun ow how => W1_store ?_⟩
  dsimp only at how
  have hw2 := upd_none how
  have hw1 := upd_none hw2.2
  have DD : OwD σ (L + 1) (L + 2) ow := ⟨hc1, hc2, hw1.2, Nat.ne_of_lt (Nat.lt_succ_self (L + 1)), hw1.1, hw2.1⟩
  have X0 : OwAt σ (L + 1) (L + 2) ow (upd (upd (upd σ (L + 1) (.cell none)) (L + 2) (.cell none)) ow (.list [])) none none [] := {
    old := fun d o e => by
      rw [upd_ne (fun z => by rw [z, DD.n3] at e; cases e), upd_ne (fun z => by rw [z, DD.n2] at e; cases e), upd_ne (fun z => by rw [z, DD.n1] at e; cases e)]
      exact e
    c1 := by rw [upd_ne DD.d1.symm, upd_ne DD.d12, upd_same]
    c2 := by rw [upd_ne DD.d2.symm, upd_same]
    ow := upd_same _ _ _ }
  refine B_cons <| S_forList hA.hd <| E_local rfl ⟨w, ws.map V.tup, rfl, fun i st => ∃ σ2 v1 v2, st = ⟨[(Str.ofString "works", .ref w), (Str.ofString "owed", .ref ow)], σ2⟩ ∧ OwAt σ (L + 1) (L + 2) ow σ2 v1 v2 ((ws.take i).flatMap fun o => ws.flatMap fun p => owe ws o p) ∧ ((ws.take i).flatMap fun o => ws.flatMap fun p => owe ws o p).length ≤ 8 * i,
    ⟨[(Str.ofString "works", .ref w), (Str.ofString "owed", .ref ow)], _⟩, Le.of ⟨rfl, rfl, trivial⟩ rfl, ⟨_, none, none, rfl, by simpa using X0, by simp⟩, ?_, ?_, ?_⟩
  · rintro i st ⟨σ2, v1, v2, rfl, X, _⟩
    exact X.old _ _ hw
  · rintro i x st hx ⟨σ2, v1, v2, rfl, X, hlen⟩
    have hi : i < ws.length := by
      by_cases q : i < ws.length
      · exact q
      · rw [List.getElem?_eq_none (by simp; omega)] at hx; cases hx
    obtain rfl : x = .tup [cmOf ws i, szOf ws i, duOf ws i] := by
      rw [List.getElem?_map, (WO.get hi).1] at hx
      cases hx
      rfl
    refine A_name <| W1_storeCell rfl X.c1 ?_
    have X1 := X.set1 DD (v := some (.tup [cmOf ws i, szOf ws i, duOf ws i]))
    refine B_cons <| S_forList hA.hd <| E_local rfl ⟨w, ws.map V.tup, rfl, fun k st => ∃ σ2 v2, st = ⟨[(Str.ofString "works", .ref w), (Str.ofString "owed", .ref ow)], σ2⟩ ∧ OwAt σ (L + 1) (L + 2) ow σ2 (some (.tup [cmOf ws i, szOf ws i, duOf ws i])) v2 (((ws.take i).flatMap fun o => ws.flatMap fun p => owe ws o p) ++ (ws.take k).flatMap fun p => owe ws [cmOf ws i, szOf ws i, duOf ws i] p) ∧
        (((ws.take i).flatMap fun o => ws.flatMap fun p => owe ws o p) ++ (ws.take k).flatMap fun p => owe ws [cmOf ws i, szOf ws i, duOf ws i] p).length ≤ 8 * i + k,
      _, Le.refl _, ⟨_, _, rfl, by simpa using X1, by simpa using hlen⟩, ?_, ?_, ?_⟩
    · rintro k st ⟨σ3, v2, rfl, X, _⟩
      exact X.old _ _ hw
    · rintro k x st hx ⟨σ3, v2, rfl, X3, hlen3⟩
      have hk : k < ws.length := by
        by_cases q : k < ws.length
        · exact q
        · rw [List.getElem?_eq_none (by simp; omega)] at hx; cases hx
      obtain rfl : x = .tup [cmOf ws k, szOf ws k, duOf ws k] := by
        rw [List.getElem?_map, (WO.get hk).1] at hx
        cases hx
        rfl
      refine A_name <| W1_storeCell rfl X3.c2 ?_
      have X4 := X3.set2 DD (v := some (.tup [cmOf ws k, szOf ws k, duOf ws k]))
      generalize hσ4 : upd σ3 (L + 2) (.cell (some (.tup [cmOf ws k, szOf ws k, duOf ws k]))) = σ4 at X4
      refine B_cons <| S_assignComp hA.hd rfl <| E_local rfl ⟨w, ws.map V.tup, rfl, X4.old _ _ hw, by simp; omega, fun D hD => ⟨fun j acc τ => acc = (groupT (cmOf ws i) (duOf ws k) (ws.take j)).map V.int ∧ τ = upd σ4 D (.list acc), ⟨?_, ?_⟩, ⟨by simp [groupT], rfl⟩, ?_⟩⟩
      · rintro j acc τ ⟨rfl, rfl⟩
        dsimp only at hD
        refine ⟨(upd_ne (none_ne hD (X4.old _ _ hw)).symm).trans (X4.old _ _ hw), upd_same _ _ _, ?_⟩
        rw [List.length_map]
        refine Nat.le_trans group_len ?_
        rw [List.length_take]
        omega
      · rintro j acc τ C hj ⟨rfl, rfl⟩
        dsimp only at hD
        rw [List.length_map] at hj
        have hit := works_getD WO hj
        have X5 := X4.fresh hD (o := .list ((groupT (cmOf ws i) (duOf ws k) (ws.take j)).map V.int))
        have hst : groupT (cmOf ws i) (duOf ws k) (ws.take (j + 1)) = groupT (cmOf ws i) (duOf ws k) (ws.take j) ++ (if decide (cmOf ws i ≤ cmOf ws j) && decide (duOf ws j ≤ duOf ws k) then [szOf ws j] else []) := by
          unfold groupT
          rw [List.take_add_one, (WO.get hj).1]
          show (List.filter _ (ws.take j ++ [[cmOf ws j, szOf ws j, duOf ws j]])).map _ = _
          rw [List.filter_append, List.map_append]
          congr 1
          show (List.filter _ [[cmOf ws j, szOf ws j, duOf ws j]]).map _ = _
          have e : inG (cmOf ws i) (duOf ws k) [cmOf ws j, szOf ws j, duOf ws j] = (decide (cmOf ws i ≤ cmOf ws j) && decide (duOf ws j ≤ duOf ws k)) := rfl
          rw [← e]
          cases h : inG (cmOf ws i) (duOf ws k) [cmOf ws j, szOf ws j, duOf ws j] with
          | true => rw [List.filter_cons_of_pos h]; rfl
          | false => rw [List.filter_cons_of_neg (by rw [h]; simp)]; rfl
        refine C_one <| T_and <| T_cmp <| E_sub <| E_local (congrArg some hit) <| E_int <| item_tup (by decide) (by decide) (x := cmOf ws j) rfl <| E_sub <| E_cell rfl X5.c1 <| E_int <| item_tup (by decide) (by decide) (x := cmOf ws i) rfl <| ge_ii ⟨_, rfl, ?_⟩
        by_cases h1 : cmOf ws i ≤ cmOf ws j
        · rw [if_pos (by simpa using h1)]
          refine T_and <| T_cmp <| E_sub <| E_local (congrArg some hit) <| E_int <| item_tup (by decide) (by decide) (x := duOf ws j) rfl <| E_sub <| E_cell rfl X5.c2 <| E_int <| item_tup (by decide) (by decide) (x := duOf ws k) rfl <| le_ii ⟨_, rfl, ?_⟩
          by_cases h2 : duOf ws j ≤ duOf ws k
          · rw [if_pos (by simpa using h2)]
            refine T_and_nil ?_
            rw [if_pos rfl]
            rw [if_pos (by simp [h1, h2])] at hst
            refine E_sub <| E_local (congrArg some hit) <| E_int <| item_tup (by decide) (by decide) (x := szOf ws j) rfl ⟨upd_same _ _ _, ?_, ?_⟩
            · rw [hst]; simp
            · dsimp only
              rw [upd_upd]
          · rw [if_neg (by simpa using h2), if_neg (by simp)]
            rw [if_neg (by simp [h2])] at hst
            rw [hst, List.append_nil]
            exact ⟨rfl, rfl⟩
        · rw [if_neg (by simpa using h1), if_neg (by simp)]
          rw [if_neg (by simp [h1])] at hst
          rw [hst, List.append_nil]
          exact ⟨rfl, rfl⟩
      · rintro acc τ ⟨rfl, rfl⟩
        dsimp only at hD
        rw [List.length_map, List.take_length]
        refine W1_store ?_
        have X5 := X4.fresh hD (o := .list ((groupT (cmOf ws i) (duOf ws k) ws).map V.int))
        have htk : (ws.take (k + 1)).flatMap (fun p => owe ws [cmOf ws i, szOf ws i, duOf ws i] p) = (ws.take k).flatMap (fun p => owe ws [cmOf ws i, szOf ws i, duOf ws i] p) ++ owe ws [cmOf ws i, szOf ws i, duOf ws i] [cmOf ws k, szOf ws k, duOf ws k] := by
          rw [List.take_add_one, (WO.get hk).1, List.flatMap_append]
          simp
        have hl1 := owe_len ws [cmOf ws i, szOf ws i, duOf ws i] [cmOf ws k, szOf ws k, duOf ws k]
        have hlen5 : (((ws.take i).flatMap fun o => ws.flatMap fun p => owe ws o p) ++ (ws.take (k + 1)).flatMap fun p => owe ws [cmOf ws i, szOf ws i, duOf ws i] p).length ≤ 8 * i + (k + 1) := by
          rw [htk, ← List.append_assoc, List.length_append]
          omega
        have hd : owe ws [cmOf ws i, szOf ws i, duOf ws i] [cmOf ws k, szOf ws k, duOf ws k] = if groupT (cmOf ws i) (duOf ws k) ws = [] then [] else [cmOf ws i + (groupT (cmOf ws i) (duOf ws k) ws).sum - duOf ws k] := rfl
        refine B_cons <| S_if <| T_neNil hA.line64 <| E_local rfl ⟨D, _, rfl, upd_same _ _ _, fun x hx => by obtain ⟨t, _, rfl⟩ := List.mem_map.mp hx; rfl, ?_⟩
        by_cases hg : groupT (cmOf ws i) (duOf ws k) ws = []
        · rw [if_neg (by rw [hg]; simp)]
          rw [if_pos hg] at hd
          refine B_nil <| B_nil ⟨_, (by exact Le.of ⟨rfl, rfl, trivial⟩ rfl), _, some (.tup [cmOf ws k, szOf ws k, duOf ws k]), rfl, ?_, hlen5⟩
          rw [htk, hd, List.append_nil]
          exact X5
        · rw [if_neg hg] at hd
          rw [if_pos (by cases hgg : groupT (cmOf ws i) (duOf ws k) ws with | nil => exact absurd hgg hg | cons => rfl)]
          refine B_cons <| S_expr <| E_append <| E_local rfl ⟨ow, rfl, ⟨_, X5.ow⟩, E_bin <| E_bin <| E_sub <| E_cell rfl X5.c1 <| E_int <| item_tup (by decide) (by decide) (x := cmOf ws i) rfl <| E_built BO G.sum bb_sum <| A_cons <| E_local rfl <| A_nil <| sum_l hA.hd (upd_same _ _ _) (group_bd WO) (Nat.le_trans group_len (by omega)) <| add_ii <| E_sub <| E_cell rfl X5.c2 <| E_int <| item_tup (by decide) (by decide) (x := duOf ws k) rfl <| sub_ii ⟨_, X5.ow, by rw [List.length_map]; omega, rfl, B_nil ?_⟩⟩
          refine B_nil ⟨_, (by exact Le.of ⟨rfl, rfl, trivial⟩ rfl), _, _, rfl, X5.setOw DD ?_, hlen5⟩
          rw [htk, hd]
          simp
    · rintro st ⟨σ3, v2, rfl, X3, hlen3⟩
      rw [List.length_map, List.take_length] at X3 hlen3
      have htk : (ws.take (i + 1)).flatMap (fun o => ws.flatMap fun p => owe ws o p) = (ws.take i).flatMap (fun o => ws.flatMap fun p => owe ws o p) ++ ws.flatMap fun p => owe ws [cmOf ws i, szOf ws i, duOf ws i] p := by
        rw [List.take_add_one, (WO.get hi).1, List.flatMap_append]
        simp
      refine B_nil ⟨_, Le.refl _, σ3, some (.tup [cmOf ws i, szOf ws i, duOf ws i]), v2, rfl, ?_, ?_⟩
      · rw [htk]; exact X3
      · rw [htk]; omega
  · rintro st ⟨σ2, v1, v2, rfl, X, _⟩
    rw [List.length_map, List.take_length] at X
    have h0 : 0 < ws.length := by omega
    obtain ⟨x, hx⟩ := owed_self (ws := ws) (t := ws[0]) (List.getElem_mem h0)
    refine B_cons <| S_ret <| E_built BO G.max bb_max <| A_cons <| E_local rfl <| A_nil <| max_ints hA.hd X.ow (fun z => by have : x ∈ ([] : List Int) := z ▸ hx; cases this) fun m hm => hQ m _ X.old hm
end Mine
end

/-! ## HO -/
section
set_option maxRecDepth 100000
namespace Mine
open PySem PySem.W PySem.Calls PySem.SeqAt PyProof.Rows

theorem asc_last {l : List Int} (hp : l.Pairwise (· < ·)) (hne : l ≠ []) : l.getLastD 0 ∈ l ∧ ∀ u ∈ l, u ≤ l.getLastD 0 := by
  rcases List.eq_nil_or_concat l with rfl | ⟨l', x, rfl⟩
  · exact absurd rfl hne
  · rw [List.concat_eq_append] at *
    have e : (l' ++ [x]).getLastD 0 = x := by simp
    rw [e]
    refine ⟨by simp, fun u hu => ?_⟩
    rcases List.mem_append.mp hu with z | z
    · exact Int.le_of_lt ((List.pairwise_append.mp hp).2.2 u z x (.head _))
    · rw [List.mem_singleton.mp z]; exact Int.le_refl _
theorem flat_len {U : Nat → List Int} {sz : Nat → Int} : ∀ (G : List Nat), (∀ j ∈ G, ((U j).length : Int) = sz j) → (((G.flatMap U).length : Nat) : Int) = (G.map sz).sum
  | [], _ => rfl
  | j :: G, h => by
    have := flat_len G fun k hk => h k (.tail _ hk)
    have h0 := h j (.head _)
    rw [List.flatMap_cons, List.length_append, List.map_cons, List.sum_cons]
    omega
theorem flat_nodup {U : Nat → List Int} (hd : ∀ i j u, u ∈ U i → u ∈ U j → i = j) (hn : ∀ j, (U j).Nodup) : ∀ (G : List Nat), G.Nodup → (G.flatMap U).Nodup
  | [], _ => .nil
  | j :: G, h => by
    have h' := List.nodup_cons.mp h
    rw [List.flatMap_cons, List.nodup_append]
    refine ⟨hn j, flat_nodup hd hn G h'.2, fun a ha b hb e => ?_⟩
    subst e
    obtain ⟨k, hk, hk2⟩ := List.mem_flatMap.mp hb
    have := hd j k a ha hk2
    subst this
    exact h'.1 hk
def grp (ws : List T) (c d : Int) : List Nat := (List.range ws.length).filter fun j => decide (c ≤ cmOf ws j) && decide (duOf ws j ≤ d)
theorem mem_grp {ws : List T} {c d : Int} {j : Nat} : j ∈ grp ws c d ↔ j < ws.length ∧ c ≤ cmOf ws j ∧ duOf ws j ≤ d := by
  unfold grp
  rw [List.mem_filter]
  simp
theorem group_grp {ws : List T} {c d : Int} : groupT c d ws = (grp ws c d).map (szOf ws) := by
  have e : ws = (List.range ws.length).map (fun i => ws.getD i []) := (getD_range ws []).symm
  have : (ws.filter (inG c d)).map (fun t => t.getD 1 0) = (((List.range ws.length).map (fun i => ws.getD i [])).filter (inG c d)).map (fun t => t.getD 1 0) := by rw [← e]
  unfold groupT
  rw [this, List.filter_map, List.map_map]
  rfl
theorem mem_owed {ws : List T} (WO : WOK ws) {x : Int} : x ∈ owedOf ws ↔ ∃ i k, i < ws.length ∧ k < ws.length ∧ grp ws (cmOf ws i) (duOf ws k) ≠ [] ∧ x = cmOf ws i + ((grp ws (cmOf ws i) (duOf ws k)).map (szOf ws)).sum - duOf ws k := by
  have idx : ∀ t ∈ ws, ∃ i, i < ws.length ∧ t = [cmOf ws i, szOf ws i, duOf ws i] := fun t ht => by
    obtain ⟨i, hi, e⟩ := List.mem_iff_getElem.mp ht
    have := (WO.get hi).1
    rw [List.getElem?_eq_getElem hi, e] at this
    exact ⟨i, hi, by injection this⟩
  have back : ∀ i, i < ws.length → [cmOf ws i, szOf ws i, duOf ws i] ∈ ws := fun i hi => List.mem_of_getElem? (WO.get hi).1
  have hown : ∀ i k, owe ws [cmOf ws i, szOf ws i, duOf ws i] [cmOf ws k, szOf ws k, duOf ws k] = if groupT (cmOf ws i) (duOf ws k) ws = [] then [] else [cmOf ws i + (groupT (cmOf ws i) (duOf ws k) ws).sum - duOf ws k] := fun _ _ => rfl
  unfold owedOf
  constructor
  · intro h
    obtain ⟨o, ho, h⟩ := List.mem_flatMap.mp h
    obtain ⟨p, hp, h⟩ := List.mem_flatMap.mp h
    obtain ⟨i, hi, rfl⟩ := idx o ho
    obtain ⟨k, hk, rfl⟩ := idx p hp
    rw [hown, group_grp] at h
    refine ⟨i, k, hi, hk, fun z => ?_, ?_⟩
    · rw [z] at h; simp at h
    · split at h
      · cases h
      · exact List.mem_singleton.mp h
  · rintro ⟨i, k, hi, hk, hne, rfl⟩
    refine List.mem_flatMap.mpr ⟨_, back i hi, List.mem_flatMap.mpr ⟨_, back k hk, ?_⟩⟩
    rw [hown, group_grp, if_neg (by simpa using hne)]
    exact .head _

theorem pr_true {ws : List T} {i j : Nat} : prB true (rkOf true ws) i j ↔ cmOf ws j < cmOf ws i ∨ (cmOf ws j = cmOf ws i ∧ j ≤ i) := Iff.rfl
theorem r_true {ws : List T} (j : Nat) : rOf true ws j = -duOf ws j := rfl

section
variable {ws : List T} {U : Nat → List Int} (WO : WOK ws) (S : Sched ws.length (rOf true ws) (szOf ws) (prB true (rkOf true ws)) U)
include WO S
theorem Sched.nonempty {j : Nat} (hj : j < ws.length) : U j ≠ [] := fun z => by
  have h1 := S.len j hj
  have h2 := (WO.get hj).2.1
  rw [z] at h1
  simp at h1
  omega
theorem Sched.asc' (j : Nat) : (U j).Nodup := (S.asc j).imp fun h => by omega
/-- what is owed is not more than the latest -/
theorem owed_late {x : Int} (hx : x ∈ owedOf ws) : ∃ j, j < ws.length ∧ x ≤ cmOf ws j + 1 + (U j).getLastD 0 := by
  obtain ⟨i, k, hi, hk, hne, rfl⟩ := (mem_owed WO).mp hx
  have hl := flat_len (U := U) (sz := szOf ws) (grp ws (cmOf ws i) (duOf ws k)) fun j hj => S.len j (mem_grp.mp hj).1
  have hnd := flat_nodup S.dis (Sched.asc' WO S) (grp ws (cmOf ws i) (duOf ws k)) (List.Pairwise.sublist List.filter_sublist List.nodup_range)
  have hlow : ∀ x ∈ (grp ws (cmOf ws i) (duOf ws k)).flatMap U, -duOf ws k ≤ x := fun x hx => by
    obtain ⟨j, hj, hj2⟩ := List.mem_flatMap.mp hx
    have h1 := S.rel j x hj2
    rw [r_true] at h1
    have h2 := (mem_grp.mp hj).2.2
    omega
  have hnn : (grp ws (cmOf ws i) (duOf ws k)).flatMap U ≠ [] := fun z => by
    obtain ⟨j, hj⟩ := List.exists_mem_of_ne_nil _ hne
    obtain ⟨u, hu⟩ := List.exists_mem_of_ne_nil _ (Sched.nonempty WO S (mem_grp.mp hj).1)
    have : u ∈ (grp ws (cmOf ws i) (duOf ws k)).flatMap U := List.mem_flatMap.mpr ⟨j, hj, hu⟩
    rw [z] at this
    cases this
  obtain ⟨u, hu, hle⟩ := some_late hnd hlow hnn
  obtain ⟨j, hj, hj2⟩ := List.mem_flatMap.mp hu
  have hj' := mem_grp.mp hj
  have hlast := (asc_last (S.asc j) (Sched.nonempty WO S hj'.1)).2 u hj2
  exact ⟨j, hj'.1, by omega⟩
/-- the latest is not more than what is owed -/
theorem late_owed {j : Nat} (hj : j < ws.length) : ∃ x ∈ owedOf ws, cmOf ws j + 1 + (U j).getLastD 0 ≤ x := by
  have hlast := asc_last (S.asc j) (Sched.nonempty WO S hj)
  generalize (U j).getLastD 0 = z at hlast
  -- a slot held by the work itself or by one ahead of it
  have occ : ∃ P : Int → Prop, ∀ t, P t ↔ ∃ i, t ∈ U i ∧ prB true (rkOf true ws) i j := ⟨fun t => ∃ i, t ∈ U i ∧ prB true (rkOf true ws) i j, fun t => Iff.rfl⟩
  obtain ⟨P, hP⟩ := occ
  have inN : ∀ i t, t ∈ U i → i < ws.length := fun i t h => by
    by_cases q : i < ws.length
    · exact q
    · rw [S.out i (by omega)] at h; cases h
  have hall : ∀ t, P t → t ∈ (List.range ws.length).flatMap U := fun t h => by
    obtain ⟨i, h1, _⟩ := (hP t).mp h
    exact List.mem_flatMap.mpr ⟨i, by simpa using inN i t h1, h1⟩
  have hself : prB true (rkOf true ws) j j := by rw [pr_true]; omega
  have hz : P z := (hP z).mpr ⟨j, hlast.1, hself⟩
  -- how far it is held without a gap
  have hstart : ∃ t₀, t₀ ≤ z ∧ (∀ t, t₀ ≤ t → t ≤ z → P t) ∧ ¬ P (t₀ - 1) := by
    by_cases e : ∃ t₀, t₀ ≤ z ∧ (∀ t, t₀ ≤ t → t ≤ z → P t) ∧ ¬ P (t₀ - 1)
    · exact e
    · exfalso
      have hk : ∀ k : Nat, ∀ t, z - k ≤ t → t ≤ z → P t := by
        intro k
        induction k with
        | zero => intro t h1 h2; have : t = z := by omega
                  rw [this]; exact hz
        | succ k ih =>
          intro t h1 h2
          by_cases q : z - k ≤ t
          · exact ih t q h2
          · have ht : t = z - k - 1 := by omega
            by_cases q2 : P (z - k - 1)
            · rw [ht]; exact q2
            · exact absurd ⟨z - k, by omega, ih, q2⟩ e
      have := cover_le (l := (List.range ws.length).flatMap U) (a := z - (((List.range ws.length).flatMap U).length : Nat)) (b := z + 1) fun t h1 h2 => hall t (hk _ t h1 (by omega))
      omega
  obtain ⟨t₀, h0z, hocc, hno⟩ := hstart
  -- whoever holds one of these hours may not be worked at sooner than t₀
  have hrel : ∀ i t, t₀ ≤ t → t ≤ z → t ∈ U i → prB true (rkOf true ws) i j → t₀ ≤ rOf true ws i := fun i t h1 h2 h3 h4 => by
    by_cases q : t₀ ≤ rOf true ws i
    · exact q
    · exfalso
      have hni : t₀ - 1 ∉ U i := fun y => hno ((hP _).mpr ⟨i, y, h4⟩)
      obtain ⟨k, hk1, hk2⟩ := S.gap i (inN i t h3) (t₀ - 1) (by omega) ⟨t, h3, by omega⟩ hni
      refine hno ((hP _).mpr ⟨k, hk1, ?_⟩)
      rw [pr_true] at *
      omega
  obtain ⟨i₀, hi1, hi2⟩ := (hP t₀).mp (hocc t₀ (Int.le_refl _) h0z)
  have hr0 : rOf true ws i₀ = t₀ := by
    have h1 := hrel i₀ t₀ (Int.le_refl _) h0z hi1 hi2
    have h2 := S.rel i₀ t₀ hi1
    omega
  have hi0 : i₀ < ws.length := inN i₀ t₀ hi1
  rw [r_true] at hr0
  have hmem : ∀ t, t₀ ≤ t → t < z + 1 → t ∈ (grp ws (cmOf ws j) (duOf ws i₀)).flatMap U := fun t h1 h2 => by
    obtain ⟨i, q1, q2⟩ := (hP t).mp (hocc t h1 (by omega))
    refine List.mem_flatMap.mpr ⟨i, mem_grp.mpr ⟨inN i t q1, ?_, ?_⟩, q1⟩
    · rw [pr_true] at q2; omega
    · have := hrel i t h1 (by omega) q1 q2
      rw [r_true] at this
      omega
  have hc := cover_le hmem
  have hl := flat_len (U := U) (sz := szOf ws) (grp ws (cmOf ws j) (duOf ws i₀)) fun j hj => S.len j (mem_grp.mp hj).1
  refine ⟨cmOf ws j + ((grp ws (cmOf ws j) (duOf ws i₀)).map (szOf ws)).sum - duOf ws i₀, (mem_owed WO).mpr ⟨j, i₀, hj, hi0, fun y => ?_, rfl⟩, by omega⟩
  have := hmem z h0z (by omega)
  rw [y] at this
  cases this
theorem horn {m M : Int} (hm : IsMax (owedOf ws) m) (hM : IsMax ((List.range ws.length).map fun j => cmOf ws j - hr true ((U j).getLastD 0)) M) : M = m := by
  have hv : ∀ j, cmOf ws j - hr true ((U j).getLastD 0) = cmOf ws j + 1 + (U j).getLastD 0 := fun j => by
    simp only [hr, if_true]; omega
  obtain ⟨h1, h2⟩ := hm
  obtain ⟨h3, h4⟩ := hM
  obtain ⟨j, hj, e⟩ := List.mem_map.mp h3
  rw [hv] at e
  obtain ⟨x, hx, hle⟩ := late_owed WO S (j := j) (by simpa using hj)
  have h5 := h2 x hx
  obtain ⟨k, hk, hle2⟩ := owed_late WO S h1
  have h6 := h4 _ (List.mem_map.mpr ⟨k, by simpa using hk, rfl⟩)
  rw [hv] at h6
  omega
end
end Mine
end

/-! ## LW -/
section
set_option maxRecDepth 100000
namespace Mine
open PySem PySem.W PySem.Calls PySem.SeqAt PyProof.Rows

theorem RowsAt.mono {σ σ' : Store} (h : ∀ c o, σ c = some o → σ' c = some o) : ∀ {as : List Addr} {rs : List (List Int)}, RowsAt σ as rs → RowsAt σ' as rs
  | [], [], _ => trivial
  | [], _ :: _, x => x.elim
  | _ :: _, [], x => x.elim
  | _ :: _, _ :: _, ⟨h1, h2⟩ => ⟨h _ _ h1, RowsAt.mono h h2⟩
theorem worksOf_ok (ns : List Int) : WOK (worksOf ns) where
  lo := by unfold worksOf; simp
  hi := by unfold worksOf; simp; omega
  row := fun t ht => by
    obtain ⟨x, _, rfl⟩ := List.mem_map.mp ht
    exact ⟨_, _, _, rfl, by omega, by omega⟩
theorem last_row {l : List Int} (b : Bool) (hne : l ≠ []) : (l.map fun u => V.int (hr b u))[place (-1) (l.map fun u => V.int (hr b u)).length]? = some (.int (hr b (l.getLastD 0))) := by
  rcases List.eq_nil_or_concat l with rfl | ⟨l', x, rfl⟩
  · exact absurd rfl hne
  · rw [List.concat_eq_append]
    unfold place
    rw [if_neg (by decide)]
    have : (-1 + (((l' ++ [x]).map fun u => V.int (hr b u)).length : Int)).toNat = l'.length := by simp; omega
    rw [this]
    simp

theorem law_body {B : Bs} (BO : BOk B) (G : MG B) (hwo : Fn B 1 (Str.ofString "_law_works") (C_works B)) (hru : Fn B 5 (Str.ofString "_law_run") C_run) (hsl : Fn B 2 (Str.ofString "_law_slots") C_slots) (how : Fn B 2 (Str.ofString "_law_owed") C_owed)
    {A : Around} (hA : Ok 5 A) {L a : Addr} {cd : Value} {l : Addr} {us : List Value} {ns : List Int} (hl : B.hb.IsList l us.toArray) (hi : IntsAre us ns) (hz : ns.length ≤ 1000) :
    WB B A (envOfC (fName (stmtAt 19)) (fScope (stmtAt 19)) L a cd) (fBody (stmtAt 19)) ⟨[(Str.ofString "script", .ref l)], upd (upd (fun _ => none) (L + 1) (.cell none)) (L + 2) (.cell none)⟩ fun f st => f = .ret (.bool true) := by
  have WO := worksOf_ok ns
  generalize hws : worksOf ns = ws at WO
  have hhi := WO.hi
  have hlo := WO.lo
  have h12 : L + 1 ≠ L + 2 := Nat.ne_of_lt (Nat.lt_succ_self (L + 1))
  refine B_cons <| S_assign <| E_call BO (hA.mono (by omega)) hwo <| A_cons <| E_local rfl <| A_nil ⟨l, us, ns, rfl, hl, hi, hz, fun w hw => ?_⟩
  rw [hws]
  dsimp only at hw
  have hw2 := upd_none hw
  have hw1 := upd_none hw2.2
  have hv1 : upd (upd (upd (fun _ => none) (L + 1) (.cell none)) (L + 2) (.cell none)) w (enc ws) (L + 1) = some (.cell none) := by
    rw [upd_ne hw1.1.symm, upd_ne h12, upd_same]
  refine W1_storeCell rfl hv1 ?_
  dsimp only
  generalize hσ1 : upd (upd (upd (upd (fun _ => none) (L + 1) (.cell none)) (L + 2) (.cell none)) w (enc ws)) (L + 1) (.cell (some (.ref w))) = σ1
  have hc1 : σ1 (L + 1) = some (.cell (some (.ref w))) := by rw [← hσ1, upd_same]
  have hc2 : σ1 (L + 2) = some (.cell none) := by rw [← hσ1, upd_ne h12.symm, upd_ne hw2.1.symm, upd_same]
  have hws1 : σ1 w = some (enc ws) := by rw [← hσ1, upd_ne hw1.1, upd_same]
  refine B_cons <| S_if <| T_cmp <| E_call BO hA hru <| A_cons <| E_cell rfl hc1 <| A_cons <| E_bool <| A_nil ⟨w, ws, false, rfl, hws1, WO, fun a1 as1 σ2 U1 old2 ha1 hrows1 _ _ SC1 => ?_⟩
  refine E_call BO (hA.mono (by omega)) hsl <| A_cons <| E_cell rfl (old2 _ _ hc1) <| A_nil ⟨w, ws, U1, rfl, old2 _ _ hws1, WO, SC1, fun a2 as2 σ3 old3 ha2 hrows2 => ?_⟩
  refine ne_rows hA.line64 (old3 _ _ ha1) ha2 (hrows1.mono old3) hrows2 ⟨_, rfl, ?_⟩
  have erows : ((List.range ws.length).map fun j => (U1 j).map (hr false)) = (List.range ws.length).map U1 := by
    refine List.map_congr_left fun j _ => ?_
    have : hr false = fun u => u := by funext u; rfl
    rw [this, List.map_id']
  rw [if_neg (by simp [erows])]
  refine B_nil ?_
  have up3 : ∀ c o, σ1 c = some o → σ3 c = some o := fun c o e => old3 _ _ (old2 _ _ e)
  refine B_cons <| S_assign <| E_call BO hA hru <| A_cons <| E_cell rfl (up3 _ _ hc1) <| A_cons <| E_bool <| A_nil ⟨w, ws, true, rfl, up3 _ _ hws1, WO, fun h as σ4 U old4 hh _ hlen hrow SC => ?_⟩
  have up4 : ∀ c o, σ1 c = some o → σ4 c = some o := fun c o e => old4 _ _ (up3 _ _ e)
  refine W1_storeCell rfl (up4 _ _ hc2) ?_
  dsimp only
  generalize hσ5 : upd σ4 (L + 2) (.cell (some (.ref h))) = σ5
  have keep5 : ∀ c xs, σ4 c = some (.list xs) → σ5 c = some (.list xs) := fun c xs e => by
    rw [← hσ5, upd_ne (fun z => by rw [z, up4 _ _ hc2] at e; cases e)]
    exact e
  have c1 : σ5 (L + 1) = some (.cell (some (.ref w))) := by rw [← hσ5, upd_ne h12]; exact up4 _ _ hc1
  have c2 : σ5 (L + 2) = some (.cell (some (.ref h))) := by rw [← hσ5, upd_same]
  have hw5 : σ5 w = some (enc ws) := keep5 _ _ (up4 _ _ hws1)
  have hh5 : σ5 h = some (.list (as.map V.ref)) := keep5 _ _ hh
  have hrow5 : ∀ j, j < ws.length → σ5 (as.getD j 0) = some (rowV true (U j)) := fun j hj => keep5 _ _ (hrow j hj)
  clear hrow hh up4 old4 up3 hrows2 ha2 old3 SC1 hrows1 ha1 old2 hσ5 keep5
  have fr : ∀ (σ : Store) (D : Addr) (o : AO), σ D = none → ∀ c o', σ c = some o' → upd σ D o c = some o' := fun σ D o hD c o' e => by
    rw [upd_ne (none_ne hD e).symm]; exact e
  refine B_cons <| S_if <| T_cmp <| E_compList hA.hd rfl <| E_cell rfl c2 ⟨h, as.map V.ref, rfl, hh5, by simp; omega, fun D hD => ⟨fun i acc τ => acc = ((List.range i).map fun j => ((U j).length : Int)).map V.int ∧ τ = upd σ5 D (.list acc), ⟨?_, ?_⟩, ⟨rfl, rfl⟩, ?_⟩⟩
  · rintro i acc τ ⟨rfl, rfl⟩
    exact ⟨fr _ _ _ hD _ _ hh5, upd_same _ _ _, by simp⟩
  · rintro i acc τ C hi ⟨rfl, rfl⟩
    rw [List.length_map, hlen] at hi
    have hit : (as.map V.ref).getD i .none = .ref (as.getD i 0) := by
      have hia : i < as.length := by omega
      simp [hia]
    refine C_nil ?_
    rw [if_pos rfl]
    refine E_built BO G.len bb_len <| A_cons <| E_local (congrArg some hit) <| A_nil <| len_l (fr _ _ _ hD _ _ (hrow5 i hi)) ⟨upd_same _ _ _, ?_, ?_⟩
    · rw [List.range_succ]; simp
    · dsimp only
      rw [upd_upd]
  rintro acc τ ⟨rfl, rfl⟩
  have hD' : σ5 D = none := hD
  rw [List.length_map, hlen]
  generalize hσ6 : upd σ5 D (.list (((List.range ws.length).map fun j => ((U j).length : Int)).map V.int)) = σ6
  have up6 : ∀ c o, σ5 c = some o → σ6 c = some o := fun c o e => by rw [← hσ6]; exact fr _ _ _ hD' c o e
  have hD6 : σ6 D = some (.list (((List.range ws.length).map fun j => ((U j).length : Int)).map V.int)) := by rw [← hσ6, upd_same]
  refine E_compList hA.hd rfl <| E_cell rfl (up6 _ _ c1) ⟨w, ws.map V.tup, rfl, up6 _ _ hw5, by simp; omega, fun D2 hD2 => ⟨fun i acc τ => acc = ((List.range i).map (szOf ws)).map V.int ∧ τ = upd σ6 D2 (.list acc), ⟨?_, ?_⟩, ⟨rfl, rfl⟩, ?_⟩⟩
  · rintro i acc τ ⟨rfl, rfl⟩
    exact ⟨fr _ _ _ hD2 _ _ (up6 _ _ hw5), upd_same _ _ _, by simp⟩
  · rintro i acc τ C hi ⟨rfl, rfl⟩
    rw [List.length_map] at hi
    refine C_nil ?_
    rw [if_pos rfl]
    refine E_sub <| E_local (congrArg some (works_getD WO hi)) <| E_int <| item_tup (by decide) (by decide) (x := szOf ws i) rfl ⟨upd_same _ _ _, ?_, ?_⟩
    · rw [List.range_succ]; simp
    · dsimp only
      rw [upd_upd]
  rintro acc τ ⟨rfl, rfl⟩
  have hD2' : σ6 D2 = none := hD2
  rw [List.length_map]
  have esz : ((List.range ws.length).map fun j => ((U j).length : Int)) = (List.range ws.length).map (szOf ws) := List.map_congr_left fun j hj => SC.len j (by simpa using hj)
  refine ne_ints hA.line64 (fr _ _ _ hD2' _ _ hD6) (upd_same _ _ _) ⟨_, rfl, ?_⟩
  rw [if_neg (by simp [esz])]
  refine B_nil ?_
  dsimp only
  generalize hσ7 : upd σ6 D2 (.list (((List.range ws.length).map (szOf ws)).map V.int)) = σ7
  have up7 : ∀ c o, σ5 c = some o → σ7 c = some o := fun c o e => by rw [← hσ7]; exact fr _ _ _ hD2' c o (up6 c o e)
  refine B_cons <| S_ret <| E_cmp <| E_built BO G.max bb_max <| A_cons <| E_compRange BO G.range hA.hd rfl <| E_built BO G.len bb_len <| A_cons <| E_cell rfl (up7 _ _ c1) <| A_nil <| len_l (up7 _ _ hw5) ⟨_, rfl, by simp; omega, fun D3 hD3 => ⟨fun i acc τ => acc = ((List.range i).map fun j => cmOf ws j - hr true ((U j).getLastD 0)).map V.int ∧ τ = upd σ7 D3 (.list acc), ⟨?_, ?_⟩, ⟨rfl, rfl⟩, ?_⟩⟩
  · rintro i acc τ ⟨rfl, rfl⟩
    exact ⟨trivial, upd_same _ _ _, by simp⟩
  · rintro i acc τ C hi ⟨rfl, rfl⟩
    rw [List.length_map] at hi
    have hia : i < as.length := by omega
    have up8 := fun c o e => fr _ _ (.list (((List.range i).map fun j => cmOf ws j - hr true ((U j).getLastD 0)).map V.int)) hD3 c o (up7 c o e)
    have hne := Sched.nonempty WO SC hi
    have hpos : 0 < (U i).length := List.length_pos_iff.mpr hne
    refine C_nil ?_
    rw [if_pos rfl]
    refine E_bin <| E_sub <| E_sub <| E_cell rfl (up8 _ _ c1) <| E_local rfl <| item_list (up8 _ _ hw5) (by simp; omega) (works_get WO hi) <| E_int <| item_tup (by decide) (by decide) (x := cmOf ws i) rfl <| E_sub <| E_sub <| E_cell rfl (up8 _ _ c2) <| E_local rfl <| item_list (up8 _ _ hh5) (by simp; omega) (refs_get hia) <| E_un <| E_int <| neg_i <| item_list (up8 _ _ (hrow5 i hi)) (by simp; omega) (last_row true hne) <| sub_ii ⟨upd_same _ _ _, ?_, ?_⟩
    · rw [List.range_succ]; simp
    · dsimp only
      rw [upd_upd]
  rintro acc τ ⟨rfl, rfl⟩
  have hD3' : σ7 D3 = none := hD3
  rw [List.length_map]
  refine A_nil <| max_ints hA.hd (upd_same _ _ _) (fun z => by have := congrArg List.length z; rw [List.length_map, List.length_range, List.length_nil] at this; omega) fun M hM => ?_
  refine E_call BO (hA.mono (by omega)) how <| A_cons <| E_cell rfl (fr _ _ _ hD3' _ _ (up7 _ _ c1)) <| A_nil ⟨w, ws, rfl, fr _ _ _ hD3' _ _ (up7 _ _ hw5), WO, fun m σ8 _ hm => eq_ii ?_⟩
  rw [horn WO SC hm hM]
  show AFlow.ret (.bool (decide (m = m))) = .ret (.bool true)
  simp
end Mine
end

/-! ## EN -/
section
set_option maxRecDepth 100000
namespace Mine
open PySem PySem.W PySem.Calls PySem.SeqAt PyProof.Rows

def fPos : Stmt → Pos
  | .FunctionDef _ _ _ _ _ _ _ _ _ p => p
  | _ => default
theorem rec0 : (recsOf vw)[0]? = some ⟨fName (stmtAt 0), fParams (stmtAt 0), fBody (stmtAt 0), fScope (stmtAt 0), fPos (stmtAt 0)⟩ := by rfl
theorem rec1 : (recsOf vw)[1]? = some ⟨fName (stmtAt 1), fParams (stmtAt 1), fBody (stmtAt 1), fScope (stmtAt 1), fPos (stmtAt 1)⟩ := by rfl
theorem rec2 : (recsOf vw)[2]? = some ⟨fName (stmtAt 2), fParams (stmtAt 2), fBody (stmtAt 2), fScope (stmtAt 2), fPos (stmtAt 2)⟩ := by rfl
theorem rec3 : (recsOf vw)[3]? = some ⟨fName (stmtAt 3), fParams (stmtAt 3), fBody (stmtAt 3), fScope (stmtAt 3), fPos (stmtAt 3)⟩ := by rfl
theorem rec4 : (recsOf vw)[4]? = some ⟨fName (stmtAt 4), fParams (stmtAt 4), fBody (stmtAt 4), fScope (stmtAt 4), fPos (stmtAt 4)⟩ := by rfl
theorem rec5 : (recsOf vw)[5]? = some ⟨fName (stmtAt 5), fParams (stmtAt 5), fBody (stmtAt 5), fScope (stmtAt 5), fPos (stmtAt 5)⟩ := by rfl
theorem rec6 : (recsOf vw)[6]? = some ⟨fName (stmtAt 6), fParams (stmtAt 6), fBody (stmtAt 6), fScope (stmtAt 6), fPos (stmtAt 6)⟩ := by rfl
theorem rec7 : (recsOf vw)[7]? = some ⟨fName (stmtAt 7), fParams (stmtAt 7), fBody (stmtAt 7), fScope (stmtAt 7), fPos (stmtAt 7)⟩ := by rfl
theorem rec8 : (recsOf vw)[8]? = some ⟨fName (stmtAt 8), fParams (stmtAt 8), fBody (stmtAt 8), fScope (stmtAt 8), fPos (stmtAt 8)⟩ := by rfl
theorem rec9 : (recsOf vw)[9]? = some ⟨fName (stmtAt 9), fParams (stmtAt 9), fBody (stmtAt 9), fScope (stmtAt 9), fPos (stmtAt 9)⟩ := by rfl
theorem rec10 : (recsOf vw)[10]? = some ⟨fName (stmtAt 10), fParams (stmtAt 10), fBody (stmtAt 10), fScope (stmtAt 10), fPos (stmtAt 10)⟩ := by rfl
theorem rec11 : (recsOf vw)[11]? = some ⟨fName (stmtAt 11), fParams (stmtAt 11), fBody (stmtAt 11), fScope (stmtAt 11), fPos (stmtAt 11)⟩ := by rfl
theorem rec12 : (recsOf vw)[12]? = some ⟨fName (stmtAt 12), fParams (stmtAt 12), fBody (stmtAt 12), fScope (stmtAt 12), fPos (stmtAt 12)⟩ := by rfl
theorem rec13 : (recsOf vw)[13]? = some ⟨fName (stmtAt 13), fParams (stmtAt 13), fBody (stmtAt 13), fScope (stmtAt 13), fPos (stmtAt 13)⟩ := by rfl
theorem rec14 : (recsOf vw)[14]? = some ⟨fName (stmtAt 14), fParams (stmtAt 14), fBody (stmtAt 14), fScope (stmtAt 14), fPos (stmtAt 14)⟩ := by rfl
theorem rec15 : (recsOf vw)[15]? = some ⟨fName (stmtAt 15), fParams (stmtAt 15), fBody (stmtAt 15), fScope (stmtAt 15), fPos (stmtAt 15)⟩ := by rfl
theorem rec16 : (recsOf vw)[16]? = some ⟨fName (stmtAt 16), fParams (stmtAt 16), fBody (stmtAt 16), fScope (stmtAt 16), fPos (stmtAt 16)⟩ := by rfl
theorem rec17 : (recsOf vw)[17]? = some ⟨fName (stmtAt 17), fParams (stmtAt 17), fBody (stmtAt 17), fScope (stmtAt 17), fPos (stmtAt 17)⟩ := by rfl
theorem rec18 : (recsOf vw)[18]? = some ⟨fName (stmtAt 18), fParams (stmtAt 18), fBody (stmtAt 18), fScope (stmtAt 18), fPos (stmtAt 18)⟩ := by rfl
theorem freeT : ([Str.ofString "len", Str.ofString "min", Str.ofString "max", Str.ofString "abs", Str.ofString "sum", Str.ofString "sorted", Str.ofString "range", Str.ofString "reversed"].all fun x => decide (x ∉ startupNames ∧ x ∉ looseW vw [] ∧ x ∉ (recsOf vw).map (·.name) ∧ x ∉ (litsOf vw).map (·.1) ∧ x ∉ (clssOf vw (looseW vw [])).map (·.name))) = true := by decide +kernel

section
variable {prog : Program} {w : World} {s₁ : Shared} {mg mb : Str → Option Value} {mean : ExcName → Option Value}
abbrev bsOf (prog : Program) (w : World) (s₁ : Shared) (mg mb : Str → Option Value) : Bs := ⟨prog, w, s₁, s₁.heap, mg, mb⟩
theorem bok (T : Top vw (looseW vw []) mean mg mb s₁.heap) : BOk (bsOf prog w s₁ mg mb) := ⟨T.g, T.b, T.builtins, T.nolimit⟩
theorem mgOk (T : Top vw (looseW vw []) mean mg mb s₁.heap) : MG (bsOf prog w s₁ mg mb) := by
  have h := List.all_eq_true.mp freeT
  have go : ∀ x, x ∈ [Str.ofString "len", Str.ofString "min", Str.ofString "max", Str.ofString "abs", Str.ofString "sum", Str.ofString "sorted", Str.ofString "range", Str.ofString "reversed"] → mg x = none := fun x hx => by
    have := of_decide_eq_true (h x hx)
    exact T.free x this.1 this.2.1 this.2.2.1 this.2.2.2.1 this.2.2.2.2
  exact ⟨go _ (.head _), go _ (.tail _ (.head _)), go _ (.tail _ (.tail _ (.head _))), go _ (.tail _ (.tail _ (.tail _ (.head _)))), go _ (.tail _ (.tail _ (.tail _ (.tail _ (.head _))))), go _ (.tail _ (.tail _ (.tail _ (.tail _ (.tail _ (.head _)))))), go _ (.tail _ (.tail _ (.tail _ (.tail _ (.tail _ (.tail _ (.head _))))))), go _ (.tail _ (.tail _ (.tail _ (.tail _ (.tail _ (.tail _ (.tail _ (.head _))))))))⟩
theorem defOf (T : Top vw (looseW vw []) mean mg mb s₁.heap) {i : Nat} (h : (recsOf vw)[i]? = some ⟨fName (stmtAt i), fParams (stmtAt i), fBody (stmtAt i), fScope (stmtAt i), fPos (stmtAt i)⟩) : ∃ a, DefN (bsOf prog w s₁ mg mb) i a := by
  obtain ⟨a, o, pm, code, doc, h1, h2, h3, h4⟩ := T.fn _ (List.mem_of_getElem? h)
  exact ⟨a, h1, o, pm, code, doc, h2, h3, h4⟩

theorem the_law (T : Top vw (looseW vw []) mean mg mb s₁.heap) {A : Around} (hA : Ok 5 A) {L a : Addr} {cd : Value} {l : Addr} {us : List Value} {ns : List Int} (hl : s₁.heap.IsList l us.toArray) (hi : IntsAre us ns) (hz : ns.length ≤ 1000) :
    WB (bsOf prog w s₁ mg mb) A (envOfC (fName (stmtAt 19)) (fScope (stmtAt 19)) L a cd) (fBody (stmtAt 19)) ⟨[(Str.ofString "script", .ref l)], upd (upd (fun _ => none) (L + 1) (.cell none)) (L + 2) (.cell none)⟩ fun f st => f = .ret (.bool true) := by
  have BO : BOk (bsOf prog w s₁ mg mb) := bok T
  have G : MG (bsOf prog w s₁ mg mb) := mgOk T
  obtain ⟨a8, D8⟩ := defOf T rec8
  have h8 : Fn (bsOf prog w s₁ mg mb) 1 (Str.ofString "_siftdown") (C_sd lexlt) := Fn.of D8 (siftdown_ok BO D8)
  obtain ⟨a10, D10⟩ := defOf T rec10
  have h10 : Fn (bsOf prog w s₁ mg mb) 1 (Str.ofString "_siftdown_max") (C_sd gtT) := Fn.of D10 (siftdownMax_ok BO D10)
  obtain ⟨a9, D9⟩ := defOf T rec9
  have h9 : Fn (bsOf prog w s₁ mg mb) 2 (Str.ofString "_siftup") (C_su lexlt) := Fn.of D9 (siftup_ok BO G h8 D9)
  obtain ⟨a11, D11⟩ := defOf T rec11
  have h11 : Fn (bsOf prog w s₁ mg mb) 2 (Str.ofString "_siftup_max") (C_su gtT) := Fn.of D11 (siftupMax_ok BO G h10 D11)
  obtain ⟨a0, D0⟩ := defOf T rec0
  have h0 : Fn (bsOf prog w s₁ mg mb) 2 (Str.ofString "heappush") (C_push lexlt) := Fn.of D0 (heappush_ok BO G h8 D0)
  obtain ⟨a1, D1⟩ := defOf T rec1
  have h1 : Fn (bsOf prog w s₁ mg mb) 3 (Str.ofString "heappop") (C_pop lexlt) := Fn.of D1 (heappop_ok BO h9 D1)
  obtain ⟨a5, D5⟩ := defOf T rec5
  have h5 : Fn (bsOf prog w s₁ mg mb) 3 (Str.ofString "_heappop_max") (C_pop gtT) := Fn.of D5 (heappopMax_ok BO h11 D5)
  obtain ⟨a2, D2⟩ := defOf T rec2
  have h2 : Fn (bsOf prog w s₁ mg mb) 3 (Str.ofString "heapreplace") (C_repl lexlt) := Fn.of D2 (heapreplace_ok BO h9 D2)
  obtain ⟨a6, D6⟩ := defOf T rec6
  have h6 : Fn (bsOf prog w s₁ mg mb) 3 (Str.ofString "_heapreplace_max") (C_repl gtT) := Fn.of D6 (heapreplaceMax_ok BO h11 D6)
  obtain ⟨a3, D3⟩ := defOf T rec3
  have h3 : Fn (bsOf prog w s₁ mg mb) 3 (Str.ofString "heappushpop") (C_ppop lexlt) := Fn.of D3 (heappushpop_ok BO h9 D3)
  obtain ⟨a4, D4⟩ := defOf T rec4
  have h4 : Fn (bsOf prog w s₁ mg mb) 3 (Str.ofString "heapify") (C_hify lexlt) := Fn.of D4 (heapify_ok BO G h9 D4)
  obtain ⟨a7, D7⟩ := defOf T rec7
  have h7 : Fn (bsOf prog w s₁ mg mb) 3 (Str.ofString "_heapify_max") (C_hify gtT) := Fn.of D7 (heapifyMax_ok BO G h11 D7)
  obtain ⟨a12, D12⟩ := defOf T rec12
  have h12 : Fn (bsOf prog w s₁ mg mb) 1 (Str.ofString "_law_works") (C_works (bsOf prog w s₁ mg mb)) := Fn.of D12 (law_works_ok BO D12)
  obtain ⟨a14, D14⟩ := defOf T rec14
  have h14 : Fn (bsOf prog w s₁ mg mb) 3 (Str.ofString "_law_laid") C_laid := Fn.of D14 (law_laid_ok BO G h10 h0 D14)
  obtain ⟨a15, D15⟩ := defOf T rec15
  have h15 : Fn (bsOf prog w s₁ mg mb) 4 (Str.ofString "_law_first") C_first := Fn.of D15 (law_first_ok BO h14 h5 h3 D15)
  obtain ⟨a13, D13⟩ := defOf T rec13
  have h13 : Fn (bsOf prog w s₁ mg mb) 4 (Str.ofString "_law_taken") C_taken := Fn.of D13 (law_taken_ok BO G h4 h7 h2 h6 h1 h5 D13)
  obtain ⟨a16, D16⟩ := defOf T rec16
  have h16 : Fn (bsOf prog w s₁ mg mb) 5 (Str.ofString "_law_run") C_run := Fn.of D16 (law_run_ok BO G h15 h14 h13 D16)
  obtain ⟨a17, D17⟩ := defOf T rec17
  have h17 : Fn (bsOf prog w s₁ mg mb) 2 (Str.ofString "_law_slots") C_slots := Fn.of D17 (law_slots_ok BO G D17)
  obtain ⟨a18, D18⟩ := defOf T rec18
  have h18 : Fn (bsOf prog w s₁ mg mb) 2 (Str.ofString "_law_owed") C_owed := Fn.of D18 (law_owed_ok BO G D18)
  exact law_body BO G h12 h16 h17 h18 hA hl hi hz

theorem law_run_true (T : Top vw (looseW vw []) mean mg mb s₁.heap) {h₁ : Heap} {tk₁ : Nat} {m : Str → Option Value} {a : Addr} {cd : Value} {l : Addr} {us : List Value} {ns : List Int} {o₁ o₂ : Obj} (F : Fr s₁.heap s₁.heap.objs.size h₁ m) (hm : m (Str.ofString "script") = some (.ref l))
    (N : News s₁.heap s₁.heap.objs.size h₁ [(s₁.heap.objs.size + 1 + 1, o₂), (s₁.heap.objs.size + 1, o₁)]) (ho₂ : o₂.data = .cell none) (ho₁ : o₁.data = .cell none) (hl : s₁.heap.IsList l us.toArray) (hi : IntsAre us ns) (hz : ns.length ≤ 63) :
    wpAny (model prog w) (callerA.deeper (envOfC (fName (stmtAt 19)) (fScope (stmtAt 19)) s₁.heap.objs.size a cd)) (execs (fBody (stmtAt 19)) (envOfC (fName (stmtAt 19)) (fScope (stmtAt 19)) s₁.heap.objs.size a cd))
      (fun f s' => f = .ret (.bool true) ∧ (∀ b o, s₁.heap.get? b = some o → s'.heap.get? b = some o) ∧ s'.os = s₁.os ∧ s'.gens = s₁.gens) (fun _ _ => False) { heap := h₁, gens := s₁.gens, drawn := s₁.drawn, toks := tk₁, os := s₁.os } := by
  have hA : Ok 5 (callerA.deeper (envOfC (fName (stmtAt 19)) (fScope (stmtAt 19)) s₁.heap.objs.size a cd)) := Ok.deeper (k := 5) ⟨rfl, by decide, by decide⟩ _
  have h2 := N _ (.head _)
  have h1 := N _ (.tail _ (.head _))
  have R : Rep (bsOf prog w s₁ mg mb) (fun b o => s₁.heap.get? b = some o) s₁.heap.objs.size ⟨[(Str.ofString "script", .ref l)], upd (upd (fun _ => none) (s₁.heap.objs.size + 1) (.cell none)) (s₁.heap.objs.size + 2) (.cell none)⟩ { heap := h₁, gens := s₁.gens, drawn := s₁.drawn, toks := tk₁, os := s₁.os } := {
    sh := ⟨h₁, tk₁, rfl⟩
    ns := ⟨m, F.ns, fun x v e => by
      dsimp only at e
      rw [List.lookup_cons] at e
      by_cases hx : x == Str.ofString "script"
      · rw [hx] at e
        cases e
        obtain rfl : x = Str.ofString "script" := by simpa using hx
        exact ⟨_, hm, rfl⟩
      · simp only [Bool.not_eq_true] at hx
        rw [hx] at e
        cases e⟩
    ob := fun b o e => by
      dsimp only at e
      by_cases q2 : b = s₁.heap.objs.size + 2
      · subst q2
        rw [upd_same] at e
        cases e
        exact ⟨o₂, h2.1, ho₂⟩
      · rw [upd_ne q2] at e
        by_cases q1 : b = s₁.heap.objs.size + 1
        · subst q1
          rw [upd_same] at e
          cases e
          exact ⟨o₁, h1.1, ho₁⟩
        · rw [upd_ne q1] at e
          cases e
    keep := F.keep
    kL := fun o q => by rw [size_none] at q; cases q
    kσ := fun b o q => by
      dsimp only
      rw [upd_ne (fun z => by rw [z] at q; have := h2.2.2; dsimp only at this; rw [show s₁.heap.objs.size + 2 = s₁.heap.objs.size + 1 + 1 from rfl, this] at q; cases q), upd_ne (fun z => by rw [z] at q; have := h1.2.2; dsimp only at this; rw [this] at q; cases q)]
    base := fun b o q => q }
  refine wpAny_mono (the_law (prog := prog) (w := w) T hA hl hi (by omega) _ _ R) ?_ fun _ _ e => e
  rintro f s' ⟨f', st', rf, R', _, rfl⟩
  refine ⟨?_, R'.baseAt, ?_, ?_⟩
  · cases f with
    | ret v => exact congrArg Flow.ret rf
    | next => exact rf.elim
    | brk => exact rf.elim
    | cont => exact rf.elim
  · obtain ⟨h, tk, e⟩ := R'.sh
    rw [e]
  · obtain ⟨h, tk, e⟩ := R'.sh
    rw [e]
end
end Mine
end

open PySem PySem.W PyProof.Rows
set_option maxRecDepth 100000 in
set_option maxHeartbeats 8000000 in
theorem PySem.Challenge.cw_nb0004_01_holds : PySem.Challenge.rw_nb0004_01.Holds := by
  w_on
  o_law
  o_head Hook.none
  (case hw => w_witness2)
  intro w s₀ s₁ mg mb G Y fa o pm cd doc dV kV ho hd hcd hD hmg hg args vals as hpre hlay hrd hwl hlo
  have KX : True := trivial
  k_behind G ho hd hcd hD hmg hpre hlay hrd hwl hlo cd
  rename_i F o2 o1 e2 e1 N X0
  rename Top _ _ _ _ _ _ => T
  rename IntsAre _ _ => hI
  rename Heap.IsList _ _ _ => hL
  rename ¬ ((63 : Nat) : Int) < _ => hc
  refine wpAny_mono (Mine.law_run_true T F rfl N e2 e1 hL hI (by omega)) ?_ (fun _ _ e => e.elim)
  rintro f s' ⟨rfl, hk, hos, hgs⟩
  exact ⟨.inl ⟨.bool true, .bool true, [], rfl, raisesW_false (by wrow_none_raised), .bool true, by wrow_post, fun _ => ⟨.nil, fun _ h => nomatch h⟩⟩, hk, hos, hgs.trans hg⟩
