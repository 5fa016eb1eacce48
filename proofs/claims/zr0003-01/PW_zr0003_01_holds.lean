import PyProof.Rows.All
import Wide.All
import OpenK.AllK
import Wide.FinOn
import PySem.Challenge.RW_zr0003_01
set_option Elab.async false
set_option maxRecDepth 100000
set_option maxHeartbeats 100000000
section
namespace Mine
open PySem

abbrev tl (x : Str) : List Nat := x.cps.toList
def Ltr (c : Nat) : Prop := c = 97 ∨ c = 98 ∨ c = 65
def lowc (c : Nat) : Nat := if c = 65 then 97 else c
def sc (p q : Nat) : Int := if p = q then 0 else if lowc p = lowc q then 1 else 2
theorem sc_nonneg (p q : Nat) : 0 ≤ sc p q := by unfold sc; (repeat' split) <;> omega
theorem sc_le (p q : Nat) : sc p q ≤ 2 := by unfold sc; (repeat' split) <;> omega
theorem sc_zero (p q : Nat) : sc p q = 0 ↔ p = q := by
  unfold sc
  by_cases e : p = q
  · simp [e]
  · rw [if_neg e]
    constructor
    · intro h; split at h <;> omega
    · intro h; exact absurd h e
theorem sc_symm (p q : Nat) : sc p q = sc q p := by
  unfold sc
  by_cases e : p = q
  · simp [e]
  · have e' : ¬ q = p := fun h => e h.symm
    rw [if_neg e, if_neg e']
    by_cases e2 : lowc p = lowc q
    · rw [if_pos e2, if_pos e2.symm]
    · have e3 : ¬ lowc q = lowc p := fun h => e2 h.symm
      rw [if_neg e2, if_neg e3]

/-- the table: the first i of y against the first j of x -/
def dp (x y : List Nat) : Nat → Nat → Int
  | 0, j => 2 * (j : Int)
  | i + 1, 0 => 2 * ((i : Int) + 1)
  | i + 1, j + 1 => min (min (dp x y (i + 1) j) (dp x y i (j + 1)) + 2) (dp x y i j + sc (y.getD i 0) (x.getD j 0))

def cpre : List Nat → List Nat → Nat
  | p :: x, q :: y => if p = q then cpre x y + 1 else 0
  | _, _ => 0

def core (x y : List Nat) : Int :=
  if x = [] ∨ y = [] then 2 * ((x.length : Int) + y.length)
  else if y.length < x.length then dp y x x.length y.length else dp x y y.length x.length
def cutEnd (q : Nat) (x : List Nat) : List Nat := x.take (x.length - q)
def levF (a b : List Nat) : Int :=
  core (cutEnd (cpre (a.drop (cpre a b)).reverse (b.drop (cpre a b)).reverse) (a.drop (cpre a b))) (cutEnd (cpre (a.drop (cpre a b)).reverse (b.drop (cpre a b)).reverse) (b.drop (cpre a b)))

theorem cpre_eq : ∀ (a b : List Nat) (k : Nat), k ≤ a.length → k ≤ b.length → a.take k = b.take k → (k = a.length ∨ k = b.length ∨ a.getD k 0 ≠ b.getD k 0) → k = cpre a b
  | [], b, k, h1, _, _, _ => by simp at h1; subst h1; simp [cpre]
  | p :: a, [], k, _, h2, _, _ => by simp at h2; subst h2; simp [cpre]
  | p :: a, q :: b, k, h1, h2, h3, h4 => by
    cases k with
    | zero =>
      rcases h4 with h | h | h
      · simp at h
      · simp at h
      · simp at h
        simp [cpre, h]
    | succ k =>
      simp only [List.take_succ_cons, List.cons.injEq] at h3
      obtain ⟨e, h3⟩ := h3
      subst e
      simp only [cpre, if_true]
      rw [cpre_eq a b k (by simpa using h1) (by simpa using h2) h3 (by simpa using h4)]

theorem cpre_le : ∀ (a b : List Nat), cpre a b ≤ a.length ∧ cpre a b ≤ b.length
  | [], b => by simp [cpre]
  | p :: a, [] => by simp [cpre]
  | p :: a, q :: b => by
    have := cpre_le a b
    simp only [cpre, List.length_cons]
    split <;> omega

/-- the row ahead of turn i -/
def rowO (x y : List Nat) (i : Nat) : List Int := (List.range x.length).map fun j => dp x y i (j + 1)
def rowI (x y : List Nat) (i k : Nat) : List Int := (List.range x.length).map fun j => if j < k then dp x y (i + 1) (j + 1) else dp x y i (j + 1)
theorem dp_succ (x y : List Nat) (i j : Nat) : dp x y (i + 1) (j + 1) = min (min (dp x y (i + 1) j) (dp x y i (j + 1)) + 2) (dp x y i j + sc (y.getD i 0) (x.getD j 0)) := by rw [dp]
theorem dp_zero (x y : List Nat) (j : Nat) : dp x y 0 j = 2 * (j : Int) := by rw [dp]
theorem dp_left (x y : List Nat) (i : Nat) : dp x y i 0 = 2 * (i : Int) := by
  cases i with
  | zero => rw [dp]
  | succ i => rw [dp]; omega
theorem dp_nonneg (x y : List Nat) : ∀ i j, 0 ≤ dp x y i j := by
  intro i
  induction i with
  | zero => intro j; rw [dp_zero]; omega
  | succ i ih =>
    intro j
    induction j with
    | zero => rw [dp_left]; omega
    | succ j jh =>
      rw [dp_succ]
      have h1 := ih j
      have h2 := ih (j + 1)
      have h3 := sc_nonneg (y.getD i 0) (x.getD j 0)
      omega
theorem dp_le (x y : List Nat) : ∀ i j, dp x y i j ≤ 2 * ((i : Int) + j) := by
  intro i
  induction i with
  | zero => intro j; rw [dp_zero]; omega
  | succ i ih =>
    intro j
    induction j with
    | zero => rw [dp_left]; omega
    | succ j jh =>
      rw [dp_succ]
      have h2 := ih (j + 1)
      omega
/-- what the loop reckons at one place: at the row's head it takes 2 i for what stands to the left -/
theorem dp_turn (x y : List Nat) (i j : Nat) : min (min (if j = 0 then 2 * (i : Int) else dp x y (i + 1) j) (dp x y i (j + 1)) + 2) (dp x y i j + sc (y.getD i 0) (x.getD j 0)) = dp x y (i + 1) (j + 1) := by
  rw [dp_succ]
  by_cases h : j = 0
  · subst h
    simp only [if_true, dp_left]
    have h3 := sc_nonneg (y.getD i 0) (x.getD 0 0)
    have h4 := sc_le (y.getD i 0) (x.getD 0 0)
    omega
  · rw [if_neg h]

theorem rowO_length (x y : List Nat) (i : Nat) : (rowO x y i).length = x.length := by simp [rowO]
theorem rowI_length (x y : List Nat) (i k : Nat) : (rowI x y i k).length = x.length := by simp [rowI]
theorem rowI_zero (x y : List Nat) (i : Nat) : rowI x y i 0 = rowO x y i := by simp [rowI, rowO]
theorem rowI_full (x y : List Nat) (i : Nat) : rowI x y i x.length = rowO x y (i + 1) := by
  unfold rowI rowO
  refine List.map_congr_left fun j hj => ?_
  rw [if_pos (List.mem_range.mp hj)]
theorem rowI_get (x y : List Nat) (i k : Nat) (h : k < x.length) : (rowI x y i k)[k]? = some (dp x y i (k + 1)) := by
  simp [rowI, h]
theorem rowI_set (x y : List Nat) (i k : Nat) (h : k < x.length) : (rowI x y i k).set k (dp x y (i + 1) (k + 1)) = rowI x y i (k + 1) := by
  apply List.ext_getElem
  · simp [rowI]
  · intro n h1 h2
    simp only [List.getElem_set, rowI, List.getElem_map, List.getElem_range]
    by_cases e : k = n
    · subst e; simp
    · rw [if_neg e]
      by_cases e2 : n < k
      · rw [if_pos e2, if_pos (by omega)]
      · rw [if_neg e2, if_neg (by omega)]
end Mine
end
section
namespace Mine
open List
theorem cons_sub {l r : List Nat} {p q : Nat} : (p :: l) <+ (q :: r) ↔ (p :: l) <+ r ∨ p = q ∧ l <+ r := by
  constructor
  · intro h
    cases h with
    | cons _ h => exact .inl h
    | cons_cons _ h => exact .inr ⟨rfl, h⟩
  · rintro (h | ⟨rfl, h⟩)
    · exact .cons _ h
    · exact .cons_cons _ h
theorem snoc_sub {l r : List Nat} {p q : Nat} : (l ++ [p]) <+ (r ++ [q]) ↔ (l ++ [p]) <+ r ∨ p = q ∧ l <+ r := by
  rw [← List.reverse_sublist]
  simp only [List.reverse_append, List.reverse_cons, List.reverse_nil, List.nil_append, List.singleton_append]
  rw [cons_sub]
  constructor
  · rintro (h | ⟨h1, h2⟩)
    · left
      rw [← List.reverse_sublist]; simpa using h
    · right
      exact ⟨h1, List.reverse_sublist.mp h2⟩
  · rintro (h | ⟨h1, h2⟩)
    · left
      have := List.reverse_sublist.mpr h
      simpa using this
    · right
      exact ⟨h1, List.reverse_sublist.mpr h2⟩
theorem take_snoc {l : List Nat} {j : Nat} (h : j < l.length) : l.take (j + 1) = l.take j ++ [l.getD j 0] := by
  rw [List.take_add_one, List.getElem?_eq_getElem h, List.getD_eq_getElem?_getD, List.getElem?_eq_getElem h]
  rfl
theorem dp_law (x y : List Nat) : ∀ i j, i ≤ y.length → j ≤ x.length → 2 * ((i : Int) - j) ≤ dp x y i j ∧ 2 * ((j : Int) - i) ≤ dp x y i j ∧ (dp x y i j = 2 * ((i : Int) - j) ↔ x.take j <+ y.take i) := by
  intro i
  induction i with
  | zero =>
    intro j _ hj
    rw [dp_zero]
    refine ⟨by omega, by omega, ?_⟩
    rw [List.take_zero, List.sublist_nil, List.take_eq_nil_iff]
    constructor
    · intro h; left; omega
    · rintro (h | h)
      · omega
      · subst h; simp at hj; omega
  | succ i ih =>
    intro j hi
    induction j with
    | zero =>
      intro _
      rw [dp_left]
      refine ⟨by omega, by omega, ?_⟩
      simp
    | succ j jh =>
      intro hj
      have h1 := ih j (by omega) (by omega)
      have h2 := ih (j + 1) (by omega) hj
      have h3 := jh (by omega)
      rw [dp_succ, take_snoc (by omega : j < x.length), take_snoc (by omega : i < y.length), snoc_sub, ← take_snoc (by omega : j < x.length), ← h2.2.2, ← h1.2.2]
      have c0 := sc_nonneg (y.getD i 0) (x.getD j 0)
      have c1 := sc_zero (y.getD i 0) (x.getD j 0)
      generalize sc (y.getD i 0) (x.getD j 0) = c at *
      generalize dp x y i j = d1 at *
      generalize dp x y i (j + 1) = d2 at *
      generalize dp x y (i + 1) j = d3 at *
      obtain ⟨a1, a2, _⟩ := h1
      obtain ⟨b1, b2, _⟩ := h2
      obtain ⟨e1, e2, _⟩ := h3
      refine ⟨by omega, by omega, ?_⟩
      constructor
      · intro h
        by_cases hd : d2 + 2 = 2 * (((i + 1 : Nat) : Int) - ((j + 1 : Nat) : Int))
        · left; omega
        · right
          have hc : c = 0 := by omega
          exact ⟨(c1.mp hc).symm, by omega⟩
      · rintro (h | ⟨h, h'⟩)
        · omega
        · have hc : c = 0 := c1.mpr h.symm
          omega
theorem dp_symm (x y : List Nat) : ∀ i j, dp x y i j = dp y x j i := by
  intro i
  induction i with
  | zero => intro j; rw [dp_zero, dp_left]
  | succ i ih =>
    intro j
    induction j with
    | zero => rw [dp_zero, dp_left]
    | succ j jh =>
      rw [dp_succ, dp_succ, ih j, ih (j + 1), jh, sc_symm (y.getD i 0)]
      omega
theorem cpre_symm : ∀ (a b : List Nat), cpre a b = cpre b a
  | [], [] => rfl
  | [], _ :: _ => rfl
  | _ :: _, [] => rfl
  | p :: a, q :: b => by
    simp only [cpre]
    rw [cpre_symm a b]
    by_cases h : p = q
    · rw [if_pos h, if_pos h.symm]
    · rw [if_neg h, if_neg (fun e => h e.symm)]
theorem cpre_take : ∀ (a b : List Nat), a.take (cpre a b) = b.take (cpre a b)
  | [], [] => rfl
  | [], _ :: _ => by simp [cpre]
  | _ :: _, [] => by simp [cpre]
  | p :: a, q :: b => by
    simp only [cpre]
    by_cases h : p = q
    · rw [if_pos h, List.take_succ_cons, List.take_succ_cons, cpre_take a b, h]
    · rw [if_neg h, List.take_zero, List.take_zero]
theorem core_symm (x y : List Nat) : core x y = core y x := by
  unfold core
  by_cases h : x = [] ∨ y = []
  · rw [if_pos h, if_pos h.symm]; omega
  · have h' : ¬ (y = [] ∨ x = []) := fun e => h e.symm
    rw [if_neg h, if_neg h']
    by_cases h1 : y.length < x.length
    · rw [if_pos h1, if_neg (by omega)]
    · rw [if_neg h1]
      by_cases h2 : x.length < y.length
      · rw [if_pos h2]
      · rw [if_neg h2]
        exact dp_symm x y _ _
theorem core_law (x y : List Nat) : 2 * ((y.length : Int) - x.length) ≤ core x y ∧ 2 * ((x.length : Int) - y.length) ≤ core x y ∧ (core x y = 2 * ((y.length : Int) - x.length) ↔ x <+ y) := by
  unfold core
  by_cases h : x = [] ∨ y = []
  · rw [if_pos h]
    refine ⟨by omega, by omega, ?_⟩
    constructor
    · intro e
      have : x.length = 0 := by omega
      rw [List.eq_nil_of_length_eq_zero this]
      exact List.nil_sublist y
    · intro e
      have := e.length_le
      rcases h with h | h
      · subst h; simp
      · subst h; simp at this; subst this; simp
  · rw [if_neg h]
    by_cases h1 : y.length < x.length
    · rw [if_pos h1]
      have l := dp_law y x x.length y.length (Nat.le_refl _) (Nat.le_refl _)
      refine ⟨l.2.1, l.1, ?_⟩
      constructor
      · intro e; omega
      · intro e; have := e.length_le; omega
    · rw [if_neg h1]
      have l := dp_law x y y.length x.length (Nat.le_refl _) (Nat.le_refl _)
      rw [List.take_length, List.take_length] at l
      exact l
theorem cutEnd_split (q : Nat) (x : List Nat) : cutEnd q x ++ x.drop (x.length - q) = x := List.take_append_drop _ _
theorem cutEnd_sub (x y : List Nat) : cutEnd (cpre x.reverse y.reverse) x <+ cutEnd (cpre x.reverse y.reverse) y ↔ x <+ y := by
  have h := cpre_take x.reverse y.reverse
  have hl := cpre_le x.reverse y.reverse
  rw [List.length_reverse, List.length_reverse] at hl
  generalize cpre x.reverse y.reverse = q at *
  have e : x.drop (x.length - q) = y.drop (y.length - q) := by
    have hx : (x.reverse.take q).reverse = x.drop (x.length - q) := by rw [List.take_reverse, List.reverse_reverse]
    have hy : (y.reverse.take q).reverse = y.drop (y.length - q) := by rw [List.take_reverse, List.reverse_reverse]
    rw [← hx, ← hy, h]
  conv => rhs; rw [← cutEnd_split q x, ← cutEnd_split q y, e]
  exact (List.append_sublist_append_right _).symm
theorem cutEnd_len (x y : List Nat) : ((cutEnd (cpre x.reverse y.reverse) y).length : Int) - (cutEnd (cpre x.reverse y.reverse) x).length = (y.length : Int) - x.length := by
  have hl := cpre_le x.reverse y.reverse
  rw [List.length_reverse, List.length_reverse] at hl
  unfold cutEnd
  rw [List.length_take, List.length_take]
  omega
theorem levF_law (a b : List Nat) : 2 * ((b.length : Int) - a.length) ≤ levF a b ∧ 2 * ((a.length : Int) - b.length) ≤ levF a b ∧ (levF a b = 2 * ((b.length : Int) - a.length) ↔ a <+ b) := by
  have h := cpre_take a b
  have hl := cpre_le a b
  unfold levF
  have e1 : a.drop (cpre a b) <+ b.drop (cpre a b) ↔ a <+ b := by
    generalize cpre a b = k at *
    conv => rhs; rw [← List.take_append_drop k a, ← List.take_append_drop k b, h]
    exact (List.append_sublist_append_left _).symm
  have e2 : ((b.drop (cpre a b)).length : Int) - (a.drop (cpre a b)).length = (b.length : Int) - a.length := by
    rw [List.length_drop, List.length_drop]; omega
  rw [← e1, ← cutEnd_sub]
  have e3 := cutEnd_len (a.drop (cpre a b)) (b.drop (cpre a b))
  have c := core_law (cutEnd (cpre (a.drop (cpre a b)).reverse (b.drop (cpre a b)).reverse) (a.drop (cpre a b))) (cutEnd (cpre (a.drop (cpre a b)).reverse (b.drop (cpre a b)).reverse) (b.drop (cpre a b)))
  rw [e3, e2] at c
  refine ⟨c.1, by omega, c.2.2⟩
theorem levF_symm (a b : List Nat) : levF b a = levF a b := by
  unfold levF
  rw [cpre_symm b a, cpre_symm (b.drop (cpre a b)).reverse, core_symm]
theorem levF_sub (a b : List Nat) : decide (levF a b = 2 * ((b.length : Int) - a.length)) = a.isSublist b := by
  rw [Bool.eq_iff_iff, List.isSublist_iff_sublist, decide_eq_true_eq]
  exact (levF_law a b).2.2
theorem levF_cut (y : List Nat) (i j : Nat) (hij : i ≤ j) (hj : j ≤ y.length) : levF (y.take i ++ y.drop j) y = 2 * ((j : Int) - i) := by
  have hs : (y.take i ++ y.drop j) <+ y := by
    have h1 : y.drop j <+ y.drop i := by
      have e : y.drop j = (y.drop i).drop (j - i) := by rw [List.drop_drop]; congr 1; omega
      rw [e]
      exact List.drop_sublist _ _
    have h2 : (y.take i ++ y.drop j) <+ (y.take i ++ y.drop i) := (List.append_sublist_append_left _).mpr h1
    rwa [List.take_append_drop] at h2
  have h := (levF_law (y.take i ++ y.drop j) y).2.2.mpr hs
  rw [h, List.length_append, List.length_take, List.length_drop]
  omega
end Mine
end
section
open PySem PySem.Builtin PySem.Builtin.Str PyProof.Rows
namespace Mine
theorem tl_len (x : Str) : (tl x).length = x.length := by simp [Str.length]
theorem tl_inj {x y : Str} (h : tl x = tl y) : x = y := by
  obtain ⟨⟨a⟩⟩ := x
  obtain ⟨⟨b⟩⟩ := y
  simp only [tl] at h
  rw [h]
theorem beq_tl {x y : Str} : (x == y) = decide (tl x = tl y) := by
  by_cases h : tl x = tl y
  · rw [tl_inj h]; simp
  · have : x ≠ y := fun e => h (by rw [e])
    simp [h, this]
theorem sl_from (x : Str) {k : Int} (h0 : 0 ≤ k) : tl (Txt.slice x (some k) none) = (tl x).drop k.toNat := by
  by_cases h1 : k ≤ x.length
  · rw [slice_from_eq (b := (x.length : Int)) h0 h1 rfl]
    show (List.take _ _).toArray.toList = _
    rw [List.toList_toArray]
    refine List.take_of_length_le ?_
    rw [List.length_drop, tl_len]; omega
  · rw [slice_beyond (by omega)]
    have : (tl x).drop k.toNat = [] := List.drop_eq_nil_of_le (by rw [tl_len]; omega)
    rw [this]; rfl
theorem sl_to_in (x : Str) {j : Int} (h0 : 0 ≤ j) (h1 : j ≤ x.length) : tl (Txt.slice x none (some j)) = (tl x).take j.toNat := by
  rw [beq_iff_eq.mp (slice_closes_toL h0 h1)]
  show (List.take _ _).toArray.toList = _
  rw [List.toList_toArray]
  simp
theorem sl_to (x : Str) {j : Int} (h0 : 0 ≤ j) : tl (Txt.slice x none (some j)) = (tl x).take j.toNat := by
  by_cases h1 : j ≤ x.length
  · exact sl_to_in x h0 h1
  · have e : Txt.slice x none (some j) = Txt.slice x none (some (x.length : Int)) := by
      unfold Txt.slice; rw [sliceIdx_hi_beyond _ (by omega : (x.length : Int) ≤ j)]
    rw [e, sl_to_in x (by omega) (Int.le_refl _)]
    rw [List.take_of_length_le (by rw [tl_len]; omega), List.take_of_length_le (by rw [tl_len]; omega)]
theorem sl_to_neg (x : Str) {j : Int} (h0 : j < 0) : tl (Txt.slice x none (some j)) = (tl x).take (x.length + j).toNat := by
  have e : Txt.slice x none (some j) = Txt.slice x none (some (max 0 ((x.length : Int) + j))) := by
    unfold Txt.slice; rw [sliceIdx_hi_neg _ h0]
  rw [e, sl_to x (by omega)]
  congr 1
  omega
theorem sl_all (x : Str) : Txt.slice x none none = x := by
  have e : Txt.slice x none none = Txt.slice x (some 0) none := by
    unfold Txt.slice; rw [StrLaws.sliceIdx_none_lo]
  rw [e]
  apply tl_inj
  rw [sl_from x (Int.le_refl 0)]
  rfl
end Mine
end
section
namespace Mine
open PySem PySem.W PyProof.Rows
open_top hd for PySem.Challenge.rw_zr0003_01
end Mine
end
section
open PySem PySem.W PyProof.Rows
namespace Mine
abbrev Claim (k : Nat) (w : World) (mean : ExcName → Option Value) (mg mb : Str → Option Value) (f : Addr) (vs : List Value) (R : Tok → Value) : Prop :=
  ∀ (dp un : Nat) (gd : Option (List Code)) (cn : Str) (cs : Scope) (a : Addr) (ccd : Value) (cl : List (Str × Addr)) (outer : List Env) (A₀ : Around) (base h₀ : Heap) (L : Addr) (m : Str → Option Value) (news : List (Addr × Obj)) (s : Shared) (Q E : Value → Shared → Prop),
    Below A₀ base outer h₀ → Fr h₀ L s.heap m → (hd.heap_39 w.params).In h₀ → News h₀ L s.heap news → Top hd.view_39 (looseW hd.view_39 []) mean mg mb h₀ → cs.kind = .function →
    dp + k < recursionLimit → un + 8 * k < cLine →
    (∀ (t : Tok) (h' : Heap) (tk' : Nat), Fr h₀ L h' m → News h₀ L h' news → Q (R t) { s with heap := h', toks := tk' }) →
    wpAny (model PySem.Challenge.rw_zr0003_01.row.prog w) (ktrTop dp un gd cn cs L a ccd cl outer) (call (.ref f) vs) Q E s
structure Hold (P : Prop) : Prop where
  out : P

def CutN (h₀ : Heap) (L : Addr) (s : Shared) (D : List (Str × Value) → List (Addr × Obj) → Prop) (f : Flow) (s₂ : Shared) : Prop :=
  f = .next ∧ ∃ ps nx u h tk, s₂ = { s with heap := h, toks := tk } ∧ D ps nx ∧ Fr h₀ L h (kstB u ps) ∧ News h₀ L h nx

section
variable {M : Model} {A : Around} {E : Value → Shared → Prop} {Q : Flow → Shared → Prop} {s : Shared} {env : Env} {h₀ : Heap} {L : Addr} {t : Sem Flow}
theorem cut_at (D : List (Str × Value) → List (Addr × Obj) → Prop) {m : Str → Option Value} (_F : Fr h₀ L s.heap m)
    (h1 : wpAny M A t (fun f s₂ => CutN h₀ L s D f s₂) E s)
    (h2 : ∀ ps nx u h tk, D ps nx → Fr h₀ L h (kstB u ps) → News h₀ L h nx → Q .next { s with heap := h, toks := tk }) : wpAny M A t Q E s := by
  refine wpAny_mono h1 (fun f s₂ c => ?_) fun _ _ e => e
  obtain ⟨rfl, ps, nx, u, h, tk, rfl, d, F, N⟩ := c
  exact h2 ps nx u h tk d F N

theorem cut_intro {D : List (Str × Value) → List (Addr × Obj) → Prop} {ps : List (Str × Value)} {nx news' : List (Addr × Obj)} {m' : Str → Option Value} {h : Heap} {tk : Nat} (F : Fr h₀ L h m') (N : News h₀ L h news')
    (d : D ps nx) (hk : ∀ p ∈ ps, m' p.1 = some p.2) (hn : ∀ p ∈ nx, p ∈ news') : CutN h₀ L s D .next { s with heap := h, toks := tk } := by
  refine ⟨rfl, ps, nx, m', h, tk, rfl, d, ?_, fun p hp => N p (hn p hp)⟩
  have e : kstB m' ps = m' := by
    funext z
    exact kstB_eq hk fun _ => rfl
  rw [e]
  exact F
end

theorem ints_of_carried : ∀ (ys : List Value) (ks : List Int), CarriedAll ys (ks.map .int) → IntsAre ys ks
  | [], [], _ => .nil
  | [], _ :: _, h => nomatch h
  | _ :: _, [], h => nomatch h
  | y :: ys, k :: ks, h => by
    cases h with
    | cons a b =>
      cases a
      exact .cons _ _ (ints_of_carried ys ks b)

section
variable {prog : Program} {w : World} {A : Around} {E : Value → Shared → Prop} {s : Shared} {h₀ : Heap} {L : Addr} {m : Str → Option Value} {Q : Value → Shared → Prop}
theorem list_range2 {r : Addr} {a b : Int} {t u v : Tok} {n : Nat} {news : List (Addr × Obj)} (hh : A.handled = none) (F : Fr h₀ L s.heap m) (N : News h₀ L s.heap news)
    (hr : IsRange s.heap r a b 2 t u v) (hsmall : Builtin.Range.small a b 2 = true) (hn : Builtin.Range.rangeSize a b 2 = (n : Int)) (hlen : n ≤ 2 ^ 24)
    (hQ : ∀ h' tk c (ys : List Value), Fr h₀ L h' m → News h₀ L h' ((s.heap.objs.size, listOf ys.toArray c) :: news) → (∀ p ∈ news, p.1 < s.heap.objs.size) → IntsAre ys (rangeInts a 2 n) → Q (.ref s.heap.objs.size) { s with heap := h', toks := tk }) :
    wpAny (model prog w) A (call (.type "list") [.ref r]) Q E s := by
  have hlt : ∀ p ∈ news, p.1 < s.heap.objs.size := fun p hp => Heap.lt_size (N p hp).1
  refine list_rangeD hh F N hr hsmall hn hlen fun h' tk ys F' N' hk hfresh hl hP hc => ?_
  obtain ⟨⟨c, hc1⟩, hc2⟩ := hP
  refine hQ h' tk c ys F' ?_ hlt (ints_of_carried _ _ hc)
  intro p hp
  rcases List.mem_cons.mp hp with rfl | hp
  · refine ⟨hc1, ?_, hfresh⟩
    obtain ⟨oL, _, _, hL, _⟩ := F.ns
    exact Nat.ne_of_gt (Heap.lt_size hL)
  · exact N' p hp
end
theorem lr_small' : ∀ n, n < 21 → Builtin.Range.small 2 (2 * ((n : Nat) + 1 : Int)) 2 = true := by decide +kernel
theorem lr_size' : ∀ n, n < 21 → Builtin.Range.rangeSize 2 (2 * ((n : Nat) + 1 : Int)) 2 = (n : Int) := by decide +kernel
section
variable {prog : Program} {w : World} {A : Around} {E : Value → Shared → Prop} {s : Shared} {h₀ : Heap} {L : Addr} {m : Str → Option Value} {Q : Value → Shared → Prop}
theorem list_rangeX {r : Addr} {n : Nat} {t u v : Tok} {news : List (Addr × Obj)} (hn : n ≤ 20) (hh : A.handled = none) (F : Fr h₀ L s.heap m) (N : News h₀ L s.heap news)
    (hr : IsRange s.heap r 2 (2 * ((n : Int) + 1)) 2 t u v)
    (hQ : ∀ h' tk c (ys : List Value), Fr h₀ L h' m → News h₀ L h' ((s.heap.objs.size, listOf ys.toArray c) :: news) → (∀ p ∈ news, p.1 < s.heap.objs.size) → IntsAre ys (rangeInts 2 2 n) → Q (.ref s.heap.objs.size) { s with heap := h', toks := tk }) :
    wpAny (model prog w) A (call (.type "list") [.ref r]) Q E s :=
  list_range2 hh F N hr (lr_small' n (by omega)) (lr_size' n (by omega)) (by omega) hQ
end
end Mine
end
section
open PySem PySem.W PyProof.Rows
namespace Mine
local macro_rules | `(tactic| walk_at "call builtin:str.lower") => `(tactic| ((refine KXw.lower (y := Str.ofString "a") (by decide +kernel) (by decide +kernel) ?_); intro _ _))
local macro_rules | `(tactic| walk_at "call builtin:str.lower") => `(tactic| ((refine KXw.lower (y := Str.ofString "b") (by decide +kernel) (by decide +kernel) ?_); intro _ _))

theorem sub_C (w : World) (mean : ExcName → Option Value) (mg mb : Str → Option Value) (x y : Str) (p q : Nat) (tx ty : Tok) (hx : x = ⟨#[p]⟩) (hy : y = ⟨#[q]⟩) (hp : Ltr p) (hq : Ltr q) :
    Claim 1 w mean mg mb 21 [Value.str x tx, .str y ty] (fun t => .int (sc p q) t) := by
  unfold Claim
  k_with_none
  k_fill
  subst hx hy
  w_strict (
  intro dp un gd cn cs a ccd cl outer A₀ base h₀ L m news s Q E hB hF hX hN hT hcs hdp hun hret
  refine wpAny_call ?_
  k_dflt cell_enter
  have kMark : KstMark := kstMark
  rcases hp with rfl | rfl | rfl <;> rcases hq with rfl | rfl | rfl
  all_goals k_steps
  all_goals (first | (exact absurd ‹_ = _› (by decide +kernel)) | exact hret _ _ _ (by k_asm) (by k_asm)))
theorem item_eq (x : Str) (i : Int) (h0 : 0 ≤ i) (h1 : i < x.length) : Txt.item x i = ⟨#[(tl x).getD i.toNat 0]⟩ := by
  have hlt : i.toNat < x.cps.size := by unfold Str.length at h1; omega
  have e : Txt.charAt x i = some x.cps[i.toNat] := by
    unfold Txt.charAt
    exact StrLaws.at_nonneg h0 (by simp [hlt])
  unfold Txt.item
  rw [e]
  simp [tl, hlt]
theorem getD_mem {l : List Nat} {i : Nat} (h : i < l.length) : l.getD i 0 ∈ l := by
  rw [List.getD_eq_getElem?_getD, List.getElem?_eq_getElem h]
  simp
theorem sub_item {w : World} {mean : ExcName → Option Value} {mg mb : Str → Option Value} {y x : Str} {i j : Int} {tx ty : Tok} (hi : 0 ≤ i ∧ i < y.length) (hj : 0 ≤ j ∧ j < x.length) (ly : ∀ c ∈ tl y, Ltr c) (lx : ∀ c ∈ tl x, Ltr c) :
    Claim 1 w mean mg mb 21 [Value.str (Txt.item y i) tx, .str (Txt.item x j) ty] (fun t => .int (sc ((tl y).getD i.toNat 0) ((tl x).getD j.toNat 0)) t) :=
  sub_C w mean mg mb _ _ _ _ tx ty (item_eq y i hi.1 hi.2) (item_eq x j hj.1 hj.2) (ly _ (getD_mem (by have := hi.2; simp [Str.length] at this ⊢; omega))) (lx _ (getD_mem (by have := hj.2; simp [Str.length] at this ⊢; omega)))
end Mine
end
section
open PySem PySem.W PyProof.Rows
namespace Mine
abbrev OutW (x y : Str) (k : Nat) (row : List Int) (result : Int) : Prop := row = rowO (tl x) (tl y) k ∧ row.length = x.length ∧ result = if k = 0 then 0 else Mine.dp (tl x) (tl y) k x.length
theorem out_start (x y : Str) : OutW x y 0 (rangeInts 2 2 x.length) 0 := by
  refine ⟨?_, by simp [rangeInts], by simp⟩
  unfold rangeInts rowO
  simp only [Str.length, Array.length_toList]
  refine List.map_congr_left fun j hj => ?_
  rw [dp_zero]; omega
abbrev InW (x y : Str) (i k : Nat) (row : List Int) (distance result minimum : Int) : Prop := row = rowI (tl x) (tl y) i k ∧ row.length = x.length ∧ distance = Mine.dp (tl x) (tl y) i k ∧ (result = if k = 0 then 2 * (i : Int) else Mine.dp (tl x) (tl y) (i + 1) k) ∧ (minimum ≤ 1000 ∨ k = 0 ∧ minimum = 9223372036854775807)
theorem in_start {x y : Str} {i : Nat} {row : List Int} {r : Int} (h : OutW x y i row r) : InW x y i 0 row ((0 + (i : Int)) * 2) ((0 + (i : Int)) * 2) 9223372036854775807 := by
  refine ⟨?_, h.2.1, ?_, ?_, .inr ⟨rfl, rfl⟩⟩
  · rw [rowI_zero]; exact h.1
  · rw [dp_left]; omega
  · simp only [if_true]; omega

theorem in_turn {x y : Str} {i : Nat} {pre : List Int} {k : Int} {row : List Int} {d r v : Int} (h1 : row = rowI (tl x) (tl y) i pre.length) (h3 : d = Mine.dp (tl x) (tl y) i pre.length)
    (h4 : r = if pre.length = 0 then 2 * (i : Int) else Mine.dp (tl x) (tl y) (i + 1) pre.length) (hk : k = 0 + (pre.length : Int)) (hlt : pre.length < ((x.length : Int) - 0).toNat)
    (hv : v = if d + sc ((tl y).getD (0 + (i : Int)).toNat 0) ((tl x).getD k.toNat 0) < (if row.getD k.toNat 0 < r then row.getD k.toNat 0 else r) + 2 then d + sc ((tl y).getD (0 + (i : Int)).toNat 0) ((tl x).getD k.toNat 0) else (if row.getD k.toNat 0 < r then row.getD k.toNat 0 else r) + 2) :
    row.set k.toNat v = rowI (tl x) (tl y) i (pre.length + 1) ∧ row.getD k.toNat 0 = Mine.dp (tl x) (tl y) i (pre.length + 1) ∧ v = Mine.dp (tl x) (tl y) (i + 1) (pre.length + 1) := by
  have hkn : k.toNat = pre.length := by omega
  have hin : (0 + (i : Int)).toNat = i := by omega
  rw [hkn, hin] at hv
  rw [hkn]
  have hl : pre.length < (tl x).length := by simp only [tl, Array.length_toList]; unfold Str.length at hlt; omega
  have hg : row.getD pre.length 0 = Mine.dp (tl x) (tl y) i (pre.length + 1) := by
    rw [h1, List.getD_eq_getElem?_getD, rowI_get _ _ _ _ hl]; rfl
  have hv2 : v = Mine.dp (tl x) (tl y) (i + 1) (pre.length + 1) := by
    rw [hv, hg, h3, h4, ← dp_turn]
    generalize (if pre.length = 0 then 2 * (i : Int) else Mine.dp (tl x) (tl y) (i + 1) pre.length) = R
    generalize Mine.dp (tl x) (tl y) i (pre.length + 1) = U
    generalize Mine.dp (tl x) (tl y) i pre.length = D
    generalize sc ((tl y).getD i 0) ((tl x).getD pre.length 0) = S
    (repeat' split) <;> omega
  refine ⟨?_, hg, hv2⟩
  rw [hv2, h1, rowI_set _ _ _ _ hl]
theorem in_turnA {x y : Str} {i : Nat} {pre : List Int} {k : Int} {row : List Int} {d r v : Int} (hi : i < y.length) (hx : x.length ≤ 20) (hy : y.length ≤ 20) (h1 : row = rowI (tl x) (tl y) i pre.length) (h2 : row.length = x.length) (h3 : d = Mine.dp (tl x) (tl y) i pre.length)
    (h4 : r = if pre.length = 0 then 2 * (i : Int) else Mine.dp (tl x) (tl y) (i + 1) pre.length) (hk : k = 0 + (pre.length : Int)) (hlt : pre.length < ((x.length : Int) - 0).toNat)
    (hv : v = if d + sc ((tl y).getD (0 + (i : Int)).toNat 0) ((tl x).getD k.toNat 0) < (if row.getD k.toNat 0 < r then row.getD k.toNat 0 else r) + 2 then d + sc ((tl y).getD (0 + (i : Int)).toNat 0) ((tl x).getD k.toNat 0) else (if row.getD k.toNat 0 < r then row.getD k.toNat 0 else r) + 2) :
    InW x y i (pre ++ [k]).length (row.set k.toNat v) (row.getD k.toNat 0) v v := by
  obtain ⟨a, b, c⟩ := in_turn h1 h3 h4 hk hlt hv
  rw [List.length_append, List.length_singleton]
  refine ⟨a, by rw [List.length_set]; exact h2, b, ?_, .inl ?_⟩
  · rw [if_neg (by omega)]; exact c
  · have := dp_le (tl x) (tl y) (i + 1) (pre.length + 1)
    omega
theorem in_turnB {x y : Str} {i : Nat} {pre : List Int} {k : Int} {row : List Int} {d r m v : Int} (hi : i < y.length) (hx : x.length ≤ 20) (hy : y.length ≤ 20) (h1 : row = rowI (tl x) (tl y) i pre.length) (h2 : row.length = x.length) (h3 : d = Mine.dp (tl x) (tl y) i pre.length)
    (h4 : r = if pre.length = 0 then 2 * (i : Int) else Mine.dp (tl x) (tl y) (i + 1) pre.length) (hk : k = 0 + (pre.length : Int)) (hlt : pre.length < ((x.length : Int) - 0).toNat)
    (hv : v = if d + sc ((tl y).getD (0 + (i : Int)).toNat 0) ((tl x).getD k.toNat 0) < (if row.getD k.toNat 0 < r then row.getD k.toNat 0 else r) + 2 then d + sc ((tl y).getD (0 + (i : Int)).toNat 0) ((tl x).getD k.toNat 0) else (if row.getD k.toNat 0 < r then row.getD k.toNat 0 else r) + 2)
    (hm : ¬ v < m) : InW x y i (pre ++ [k]).length (row.set k.toNat v) (row.getD k.toNat 0) v m := by
  obtain ⟨a, b, c⟩ := in_turn h1 h3 h4 hk hlt hv
  rw [List.length_append, List.length_singleton]
  refine ⟨a, by rw [List.length_set]; exact h2, b, ?_, .inl ?_⟩
  · rw [if_neg (by omega)]; exact c
  · have := dp_le (tl x) (tl y) (i + 1) (pre.length + 1)
    omega
theorem in_end {x y : Str} {i : Nat} {row : List Int} {d r m : Int} (h : InW x y i (rangeKs 0 ((x.length : Int) - 0).toNat).length row d r m) (h1 : 1 ≤ x.length) : OutW x y (i + 1) row r ∧ m ≤ 1000 := by
  obtain ⟨a, b, c, e, f⟩ := h
  rw [rangeKs_length] at a e f
  have hl : ((x.length : Int) - 0).toNat = x.length := by omega
  have hl2 : (tl x).length = x.length := by simp [Str.length]
  rw [hl] at a e f
  refine ⟨⟨?_, b, ?_⟩, ?_⟩
  · rw [a, ← hl2, rowI_full]
  · rw [if_neg (by omega), e, if_neg (by omega)]
  · omega
theorem out_turn {x y : Str} {i : Nat} {pre : List Int} {k : Int} {row : List Int} {r : Int} (h : OutW x y (i + 1) row r) (hi : pre.length = i) : OutW x y (pre ++ [k]).length row r := by
  rw [List.length_append, List.length_singleton, hi]; exact h
theorem out_end {x y : Str} {row : List Int} {r : Int} (h : OutW x y (rangeKs 0 ((y.length : Int) - 0).toNat).length row r) (h1 : 1 ≤ y.length) : r = Mine.dp (tl x) (tl y) y.length x.length := by
  obtain ⟨_, _, c⟩ := h
  rw [rangeKs_length] at c
  have hl : ((y.length : Int) - 0).toNat = y.length := by omega
  rw [hl, if_neg (by omega)] at c
  exact c

section
variable {prog : Program} {w : World} {A : Around} {E : Value → Shared → Prop} {s : Shared} {value slice : PySem.Expr} {x : Str} {t : Tok} {h₀ : Heap} {L : Addr} {m : Str → Option Value} {news : List (Addr × Obj)} {Q : Value → Shared → Prop}
theorem slice_nn_x (hF : Fr h₀ L s.heap m) (hN : News h₀ L s.heap news) (h : ∀ h' t' k, Fr h₀ L h' m → News h₀ L h' news → Q (.str x t') { s with heap := h', toks := k })
    (hs : subscripted slice false (.str x t) (.ref s.heap.objs.size) = operate [.ref s.heap.objs.size, .str x t] (getItem (.str x t) (.ref s.heap.objs.size)) := by with_unfolding_all rfl)
    (ht : ∀ r, letTemporaryGo value (.str x t) r = pure () := by intro _; with_unfolding_all rfl) (hsz : x.length ≤ sizeLine := by size_fits) :
    wpAny (model prog w) A (subscriptTail value slice (.str x t) (.ref s.heap.objs.size)) Q E { s with heap := s.heap.push { cls := .type "slice", data := .fields #[.none, .none, .none] } } :=
  slice_strN_nn hF hN (fun h' t' k a b => by rw [sl_all]; exact h h' t' k a b) hs ht hsz
theorem sl_len_neg (x : Str) (j : Int) (h : j < 0) : ((Txt.slice x none (some j)).length : Int) = max 0 ((x.length : Int) + j) := by
  rw [← tl_len, sl_to_neg x h, List.length_take, tl_len]; omega
theorem slice_ns_x {j : Int} {uj : Tok} (hF : Fr h₀ L s.heap m) (hN : News h₀ L s.heap news) (h : ∀ h' t' k, Fr h₀ L h' m → News h₀ L h' news → (j < 0 → ((Txt.slice x none (some j)).length : Int) = max 0 ((x.length : Int) + j)) → Q (.str (Txt.slice x none (some j)) t') { s with heap := h', toks := k })
    (hs : subscripted slice false (.str x t) (.ref s.heap.objs.size) = operate [.ref s.heap.objs.size, .str x t] (getItem (.str x t) (.ref s.heap.objs.size)) := by with_unfolding_all rfl)
    (ht : ∀ r, letTemporaryGo value (.str x t) r = pure () := by intro _; with_unfolding_all rfl) (hsz : x.length ≤ sizeLine := by size_fits) :
    wpAny (model prog w) A (subscriptTail value slice (.str x t) (.ref s.heap.objs.size)) Q E { s with heap := s.heap.push { cls := .type "slice", data := .fields #[.none, .int j uj, .none] } } :=
  slice_strN_ns hF hN (fun h' t' k a b => h h' t' k a b fun h => sl_len_neg x j h) hs ht hsz
end

abbrev PreW (a b : Str) (k : Int) : Prop := 0 ≤ k ∧ k ≤ a.length ∧ k ≤ b.length ∧ (tl a).take k.toNat = (tl b).take k.toNat
theorem pre_start (a b : Str) : PreW a b 0 := ⟨by omega, by omega, by omega, by simp⟩
theorem take_succ_of {l l' : List Nat} {n : Nat} (h : l.take n = l'.take n) (h1 : n < l.length) (h2 : n < l'.length) (e : l.getD n 0 = l'.getD n 0) : l.take (n + 1) = l'.take (n + 1) := by
  rw [List.take_add_one, List.take_add_one, h]
  rw [List.getD_eq_getElem?_getD, List.getD_eq_getElem?_getD, List.getElem?_eq_getElem h1, List.getElem?_eq_getElem h2] at e
  rw [List.getElem?_eq_getElem h1, List.getElem?_eq_getElem h2]
  simp only [Option.getD_some] at e
  rw [e]
theorem item_beq {x y : Str} {i j : Int} (h0 : 0 ≤ i) (h1 : i < x.length) (h2 : 0 ≤ j) (h3 : j < y.length) : (Txt.item x i == Txt.item y j) = decide ((tl x).getD i.toNat 0 = (tl y).getD j.toNat 0) := by
  rw [item_eq x i h0 h1, item_eq y j h2 h3, beq_tl]
  simp [tl]
theorem pre_turn {a b : Str} {k : Int} (h0 : 0 ≤ k) (h3 : (tl a).take k.toNat = (tl b).take k.toNat) (h4 : k < a.length) (h5 : k < b.length) (h6 : (Txt.item a k == Txt.item b k) = true) : PreW a b (k + 1) := by
  refine ⟨by omega, by omega, by omega, ?_⟩
  have e : (k + 1).toNat = k.toNat + 1 := by omega
  rw [e]
  rw [item_beq h0 h4 h0 h5] at h6
  exact take_succ_of h3 (by rw [tl_len]; omega) (by rw [tl_len]; omega) (of_decide_eq_true h6)
theorem pre_doneA {a b : Str} {k : Int} (h0 : 0 ≤ k) (h1 : k ≤ a.length) (h2 : k ≤ b.length) (h3 : (tl a).take k.toNat = (tl b).take k.toNat) (h : k = a.length ∨ k = b.length) : k = ((cpre (tl a) (tl b) : Nat) : Int) := by
  have := cpre_eq (tl a) (tl b) k.toNat (by rw [tl_len]; omega) (by rw [tl_len]; omega) h3 (by rw [tl_len, tl_len]; omega)
  omega
theorem pre_doneB {a b : Str} {k : Int} (h0 : 0 ≤ k) (h3 : (tl a).take k.toNat = (tl b).take k.toNat) (h4 : k < a.length) (h5 : k < b.length) (h6 : (Txt.item a k == Txt.item b k) = false) : k = ((cpre (tl a) (tl b) : Nat) : Int) := by
  rw [item_beq h0 h4 h0 h5] at h6
  have := cpre_eq (tl a) (tl b) k.toNat (by rw [tl_len]; omega) (by rw [tl_len]; omega) h3 (.inr (.inr (of_decide_eq_false h6)))
  omega

theorem item_eq_neg (x : Str) (i : Int) (h0 : i < 0) (h1 : -(x.length : Int) ≤ i) : Txt.item x i = ⟨#[(tl x).reverse.getD (-i - 1).toNat 0]⟩ := by
  have hlt : (i + x.length).toNat < x.cps.size := by unfold Str.length at h1 ⊢; omega
  have e : Txt.charAt x i = some x.cps[(i + x.length).toNat] := by
    unfold Txt.charAt
    rw [StrLaws.seqIndex_neg h0 h1]
    simp [hlt]
  unfold Txt.item
  rw [e]
  have hr : (-i - 1).toNat < (tl x).length := by rw [tl_len]; omega
  rw [List.getD_eq_getElem?_getD, List.getElem?_reverse hr]
  have hi : (tl x).length - 1 - (-i - 1).toNat = (i + x.length).toNat := by rw [tl_len]; omega
  rw [hi]
  simp [tl, hlt]
theorem item_beq_neg {x y : Str} {i : Int} (h0 : i < 0) (h1 : -(x.length : Int) ≤ i) (h2 : -(y.length : Int) ≤ i) : (Txt.item x i == Txt.item y i) = decide ((tl x).reverse.getD (-i - 1).toNat 0 = (tl y).reverse.getD (-i - 1).toNat 0) := by
  rw [item_eq_neg x i h0 h1, item_eq_neg y i h0 h2, beq_tl]
  simp [tl]
abbrev PostW (x y : Str) (k : Int) : Prop := k ≤ 0 ∧ -k ≤ x.length ∧ -k ≤ y.length ∧ (tl x).reverse.take (-k).toNat = (tl y).reverse.take (-k).toNat
theorem post_start (x y : Str) : PostW x y 0 := ⟨by omega, by omega, by omega, by simp⟩
theorem post_turn {x y : Str} {k : Int} (h0 : k ≤ 0) (h3 : (tl x).reverse.take (-k).toNat = (tl y).reverse.take (-k).toNat) (h4 : -k < x.length) (h5 : -k < y.length) (h6 : (Txt.item x (k - 1) == Txt.item y (k - 1)) = true) : PostW x y (k - 1) := by
  refine ⟨by omega, by omega, by omega, ?_⟩
  have e : (-(k - 1)).toNat = (-k).toNat + 1 := by omega
  have e2 : (-(k - 1) - 1).toNat = (-k).toNat := by omega
  rw [e]
  rw [item_beq_neg (by omega) (by omega) (by omega), e2] at h6
  exact take_succ_of h3 (by rw [List.length_reverse, tl_len]; omega) (by rw [List.length_reverse, tl_len]; omega) (of_decide_eq_true h6)
theorem post_doneA {x y : Str} {k : Int} (h0 : k ≤ 0) (h1 : -k ≤ x.length) (h2 : -k ≤ y.length) (h3 : (tl x).reverse.take (-k).toNat = (tl y).reverse.take (-k).toNat) (h : -k = x.length ∨ -k = y.length) : k = -((cpre (tl x).reverse (tl y).reverse : Nat) : Int) := by
  have := cpre_eq (tl x).reverse (tl y).reverse (-k).toNat (by rw [List.length_reverse, tl_len]; omega) (by rw [List.length_reverse, tl_len]; omega) h3 (by rw [List.length_reverse, List.length_reverse, tl_len, tl_len]; omega)
  omega
theorem post_doneB {x y : Str} {k : Int} (h0 : k ≤ 0) (h3 : (tl x).reverse.take (-k).toNat = (tl y).reverse.take (-k).toNat) (h4 : -k < x.length) (h5 : -k < y.length) (h6 : (Txt.item x (k - 1) == Txt.item y (k - 1)) = false) : k = -((cpre (tl x).reverse (tl y).reverse : Nat) : Int) := by
  have e2 : (-(k - 1) - 1).toNat = (-k).toNat := by omega
  rw [item_beq_neg (by omega) (by omega) (by omega), e2] at h6
  have := cpre_eq (tl x).reverse (tl y).reverse (-k).toNat (by rw [List.length_reverse, tl_len]; omega) (by rw [List.length_reverse, tl_len]; omega) h3 (.inr (.inr (of_decide_eq_false h6)))
  omega
theorem cutend_A {X : Str} {q : Nat} (h : -(q : Int) = 0) : tl X = cutEnd q (tl X) := by
  have : q = 0 := by omega
  subst this
  unfold cutEnd
  rw [Nat.sub_zero, List.take_length]
theorem cutend_B {X : Str} {q : Nat} (h : -(q : Int) ≠ 0) : tl (Txt.slice X none (some (-(q : Int)))) = cutEnd q (tl X) := by
  rw [sl_to_neg X (by omega)]
  unfold cutEnd
  rw [tl_len]
  congr 1
  omega
theorem core_empty {x y : Str} (h : x.length = 0 ∨ y.length = 0) : 2 * ((x.length : Int) + y.length) = core (tl x) (tl y) := by
  unfold core
  have h2 : tl x = [] ∨ tl y = [] := by
    rcases h with h | h
    · exact .inl (List.eq_nil_of_length_eq_zero (by rw [tl_len]; exact h))
    · exact .inr (List.eq_nil_of_length_eq_zero (by rw [tl_len]; exact h))
  rw [if_pos h2, tl_len, tl_len]
theorem core_lt {x y : Str} (h1 : x.length ≠ 0) (h2 : y.length ≠ 0) (h : y.length < x.length) : core (tl x) (tl y) = Mine.dp (tl y) (tl x) x.length y.length := by
  unfold core
  have h3 : ¬ (tl x = [] ∨ tl y = []) := by
    intro e
    rcases e with e | e <;> (have := congrArg List.length e; rw [tl_len] at this; simp at this; omega)
  rw [if_neg h3, tl_len, tl_len, if_pos h]
theorem core_ge {x y : Str} (h1 : x.length ≠ 0) (h2 : y.length ≠ 0) (h : ¬ y.length < x.length) : core (tl x) (tl y) = Mine.dp (tl x) (tl y) y.length x.length := by
  unfold core
  have h3 : ¬ (tl x = [] ∨ tl y = []) := by
    intro e
    rcases e with e | e <;> (have := congrArg List.length e; rw [tl_len] at this; simp at this; omega)
  rw [if_neg h3, tl_len, tl_len, if_neg h]
theorem levF_self (l : List Nat) : levF l l = 0 := by
  have h : ∀ l : List Nat, cpre l l = l.length := by
    intro l
    induction l with
    | nil => simp [cpre]
    | cons p r ih => simp [cpre, ih]
  unfold levF
  rw [h l]
  simp [cutEnd, core]
theorem levF_eq {a b : Str} (h : (a == b) = true) : 0 = levF (tl a) (tl b) := by
  rw [beq_tl] at h
  rw [of_decide_eq_true h, levF_self]
theorem mem_cutEnd {q : Nat} {l : List Nat} {c : Nat} (h : c ∈ cutEnd q l) : c ∈ l := List.mem_of_mem_take h
end Mine
end
section
open PySem PySem.W PyProof.Rows
namespace Mine
local macro_rules | `(tactic| walk_at "InvEndN") => `(tactic| (k_dflt kst_close))
local macro_rules | `(tactic| walk_at "exec While BoolOp cons nil") => `(tactic| (refine Hold.out ?_))
local macro_rules | `(tactic| walk_at "pyIter ref") => `(tactic| (refine Hold.out ?_))
local macro_rules | `(tactic| walk_at "exec Assign") => `(tactic| ((with_reducible show wpAny _ _ (exec (Stmt.Assign [PySem.Expr.Name _ _] (PySem.Expr.Subscript _ (PySem.Expr.Slice none (some (PySem.Expr.BoolOp _ _ _)) none _) _) _) _) _ _ _); refine Hold.out ?_))
local macro_rules | `(tactic| walk_at "exec If") => `(tactic| ((with_reducible show wpAny _ _ (exec (Stmt.If (PySem.Expr.Compare (PySem.Expr.Call (PySem.Expr.Name (Str.ofString "len") _) _ _ _) [CmpOp.Lt] _ _) _ _ _) _) _ _ _); refine Hold.out ?_))
local macro_rules | `(tactic| walk_at "subscriptTail Name Slice str ref") => `(tactic| ((with_reducible show wpAny _ _ (subscriptTail _ (PySem.Expr.Slice none (some (PySem.Expr.BoolOp _ _ _)) none _) _ _) _ _ _); (with_reducible rename Fr _ _ _ _ => F'); (with_reducible rename News _ _ _ _ => N'); (refine slice_ns_x (hsz := ?hsz) (s := ⟨_, _, _, _, _⟩) F' N' ?_); (case hsz => size_fits); intro _ _ _ _ _ hL'))
local macro_rules | `(tactic| walk_at "subscriptTail Name Slice str ref") => `(tactic| ((with_reducible show wpAny _ _ (subscriptTail _ (PySem.Expr.Slice none (some (PySem.Expr.BoolOp _ _ _)) none _) _ _) _ _ _); (with_reducible rename Fr _ _ _ _ => F'); (with_reducible rename News _ _ _ _ => N'); (refine slice_nn_x (hsz := ?hsz) (s := ⟨_, _, _, _, _⟩) F' N' ?_); (case hsz => size_fits); intro _ _ _ _ _))
local macro_rules | `(tactic| walk_at "call type:list") => `(tactic| (k_here; (with_reducible show wpAny _ _ (call (Value.type "list") [Value.ref _]) _ _ _); (rename IsRange _ _ _ _ _ _ _ _ => R'); (rename Fr _ _ _ _ => F'); (rename News _ _ _ _ => N'); (with_unfolding_all refine list_rangeX (by assumption) (by rfl) F' N' R' ?_); intro h' tk' c' ys' F' N' l1 I'; (k_lt l1); (try k_sweep)))

local macro_rules | `(tactic| walk_at "call ref") => `(tactic| (k_here; (with_reducible show wpAny _ _ (call (Value.ref 21) [Value.str _ _, Value.str _ _]) _ _ _); k_dflt (refine' (sub_item ?hi ?hj ?ly ?lx) _ _ _ _ _ _ _ _ _ _ _ _ _ _ _ _ _ _ ?k1 ?k2 ?k3 ?k4 ?k5 ?kK ?kd ?ku ?kR; (case hi => omega); (case hj => omega); (case ly => assumption); (case lx => assumption); (case k1 => k_asm); (case k2 => k_asm); (case k3 => k_asm); (case k4 => k_asm); (case k5 => k_asm); (case kK => first | exact rfl | assumption); (case kd => ktr_room); (case ku => ktr_units); intro t9 h9 tk9 F9 N9; (try dsimp only))))
theorem lev_C (w : World) (mean : ExcName → Option Value) (mg mb : Str → Option Value) (a b : Str) (ta tb tc : Tok) (ha : a.length ≤ 20) (hb : b.length ≤ 20) (la : ∀ c ∈ tl a, Ltr c) (lb : ∀ c ∈ tl b, Ltr c) :
    Claim 2 w mean mg mb 28 [Value.str a ta, .str b tb, .int 1000 tc] (fun t => .int (levF (tl a) (tl b)) t) := by
  unfold Claim
  k_with_none
  k_fill
  w_strict (
  intro dp un gd cn cs fa ccd cl outer A₀ base h₀ L m news s Q E hB hF hX hN hT hcs hdp hun hret
  refine wpAny_call ?_
  k_dflt cell_enter
  have kMark : KstMark := kstMark
  k_steps
  · exact cb_retI hret (levF_eq (by assumption)) (by k_asm) (by k_asm)
  refine Hold.mk ?_
  rename Fr _ _ _ _ => F1
  rename News _ _ _ _ => N1
  refine cut_at (fun ps nx => ∃ k t, ps = [(Str.ofString "a", Value.str a ta), (Str.ofString "b", Value.str b tb), (Str.ofString "max_cost", Value.int 1000 tc), (Str.ofString "pre", .int k t)] ∧ news = nx ∧ k = ((cpre (tl a) (tl b) : Nat) : Int)) F1 ?_ ?_
  · k_with "state" => exact pre_start a b
    k_with "state" => exact pre_turn (by assumption) (by assumption) (by omega) (by omega) (by assumption)
    k_while (fun _ k => PreW a b k) (fun _ k => a.length - k.toNat) "pre"
    k_steps
    all_goals ((rename Fr _ _ _ _ => FE); (rename News _ _ _ _ => NE); refine' cut_intro FE NE ⟨_, _, rfl, rfl, ?e⟩ ?hk ?hn; (case hk => kst_all); (case hn => exact fun _ h => h); (case e => first | exact pre_doneA (by assumption) (by assumption) (by assumption) (by assumption) (by omega) | exact pre_doneB (by assumption) (by assumption) (by omega) (by omega) (by assumption)))
  try clear F1
  try clear N1
  rintro ps nx u h tk ⟨k, t, rfl, rfl, rfl⟩ F1 N1
  dsimp only [kstB] at F1
  k_steps
  refine Hold.mk ?_
  have eX : tl (Txt.slice a (some ((cpre (tl a) (tl b) : Nat) : Int)) none) = (tl a).drop (cpre (tl a) (tl b)) := sl_from a (by omega)
  have eY : tl (Txt.slice b (some ((cpre (tl a) (tl b) : Nat) : Int)) none) = (tl b).drop (cpre (tl a) (tl b)) := sl_from b (by omega)
  generalize Txt.slice a (some ((cpre (tl a) (tl b) : Nat) : Int)) none = X at *
  generalize Txt.slice b (some ((cpre (tl a) (tl b) : Nat) : Int)) none = Y at *
  have hX : X.length ≤ 20 := by rw [← tl_len, eX, List.length_drop, tl_len]; omega
  have hY : Y.length ≤ 20 := by rw [← tl_len, eY, List.length_drop, tl_len]; omega
  have lX : ∀ c ∈ tl X, Ltr c := fun c hc => la c (List.mem_of_mem_drop (eX ▸ hc))
  have lY : ∀ c ∈ tl Y, Ltr c := fun c hc => lb c (List.mem_of_mem_drop (eY ▸ hc))
  rename Fr _ _ _ _ => F1
  rename News _ _ _ _ => N1
  refine cut_at (fun ps nx => ∃ k t t1 t2, ps = [(Str.ofString "a", Value.str X t1), (Str.ofString "b", Value.str Y t2), (Str.ofString "max_cost", Value.int 1000 tc), (Str.ofString "post", .int k t)] ∧ news = nx ∧ k = -((cpre (tl X).reverse (tl Y).reverse : Nat) : Int)) F1 ?_ ?_
  · k_with "state" => exact post_start X Y
    k_with "state" => exact post_turn (by assumption) (by assumption) (by omega) (by omega) (by assumption)
    k_while (fun _ k => PostW X Y k) (fun _ k => X.length - (-k).toNat) "post"
    k_steps
    all_goals ((rename Fr _ _ _ _ => FE); (rename News _ _ _ _ => NE); refine' cut_intro FE NE ⟨_, _, _, _, rfl, rfl, ?e⟩ ?hk ?hn; (case hk => kst_all); (case hn => exact fun _ h => h); (case e => first | exact post_doneA (by assumption) (by assumption) (by assumption) (by assumption) (by omega) | exact post_doneB (by assumption) (by assumption) (by omega) (by omega) (by assumption)))
  try clear F1
  try clear N1
  have q1 : cpre (tl X).reverse (tl Y).reverse ≤ X.length := by
    have := cpre_le (tl X).reverse (tl Y).reverse
    rw [List.length_reverse, List.length_reverse, tl_len, tl_len] at this
    exact this.1
  have q2 : cpre (tl X).reverse (tl Y).reverse ≤ Y.length := by
    have := cpre_le (tl X).reverse (tl Y).reverse
    rw [List.length_reverse, List.length_reverse, tl_len, tl_len] at this
    exact this.2
  have hres : levF (tl a) (tl b) = core (cutEnd (cpre (tl X).reverse (tl Y).reverse) (tl X)) (cutEnd (cpre (tl X).reverse (tl Y).reverse) (tl Y)) := by
    unfold levF
    rw [eX, eY]
  generalize cpre (tl X).reverse (tl Y).reverse = q at *
  rintro ps nx u h tk ⟨k, t, t1, t2, rfl, rfl, rfl⟩ F1 N1
  dsimp only [kstB] at F1
  k_steps
  refine Hold.mk ?_
  rename Fr _ _ _ _ => F1
  rename News _ _ _ _ => N1
  refine cut_at (fun ps nx => ∃ x' t t1 t2, ps = [(Str.ofString "a", Value.str x' t1), (Str.ofString "b", Value.str Y t2), (Str.ofString "max_cost", Value.int 1000 tc), (Str.ofString "post", .int (-(q : Int)) t)] ∧ news = nx ∧ tl x' = cutEnd q (tl X)) F1 ?_ ?_
  · refine wpAny_Assign_Name ?_
    k_steps
    all_goals ((rename Fr _ _ _ _ => FE); (rename News _ _ _ _ => NE); refine' cut_intro FE NE ⟨_, _, _, _, rfl, rfl, ?e⟩ ?hk ?hn; (case hk => kst_all); (case hn => exact fun _ h => h); (case e => first | exact cutend_A (by assumption) | exact cutend_B (by assumption)))
  try clear F1
  try clear N1
  rintro ps nx u h tk ⟨x', t, t1, t2, rfl, rfl, ex'⟩ F1 N1
  dsimp only [kstB] at F1
  k_steps
  refine Hold.mk ?_
  rename Fr _ _ _ _ => F1
  rename News _ _ _ _ => N1
  refine cut_at (fun ps nx => ∃ y' t1 t2, ps = [(Str.ofString "a", Value.str x' t1), (Str.ofString "b", Value.str y' t2), (Str.ofString "max_cost", Value.int 1000 tc)] ∧ news = nx ∧ tl y' = cutEnd q (tl Y)) F1 ?_ ?_
  · refine wpAny_Assign_Name ?_
    k_steps
    all_goals ((rename Fr _ _ _ _ => FE); (rename News _ _ _ _ => NE); refine' cut_intro FE NE ⟨_, _, _, rfl, rfl, ?e⟩ ?hk ?hn; (case hk => kst_all); (case hn => exact fun _ h => h); (case e => first | exact cutend_A (by assumption) | exact cutend_B (by assumption)))
  try clear F1
  try clear N1
  rintro ps nx u h tk ⟨y', t1, t2, rfl, rfl, ey'⟩ F1 N1
  dsimp only [kstB] at F1
  have hx' : x'.length ≤ 20 := by rw [← tl_len, ex', cutEnd, List.length_take, tl_len]; omega
  have hy' : y'.length ≤ 20 := by rw [← tl_len, ey', cutEnd, List.length_take, tl_len]; omega
  have lx' : ∀ c ∈ tl x', Ltr c := fun c hc => lX c (mem_cutEnd (ex' ▸ hc))
  have ly' : ∀ c ∈ tl y', Ltr c := fun c hc => lY c (mem_cutEnd (ey' ▸ hc))
  rw [← ex', ← ey'] at hres
  k_steps
  refine Hold.mk ?_
  rename Fr _ _ _ _ => F1
  rename News _ _ _ _ => N1
  refine cut_at (fun ps nx => ∃ x y t1 t2, ps = [(Str.ofString "a", Value.str x t1), (Str.ofString "b", Value.str y t2), (Str.ofString "max_cost", Value.int 1000 tc)] ∧ news = nx ∧ x.length ≤ 20 ∧ y.length ≤ 20 ∧ 1 ≤ x.length ∧ x.length ≤ y.length ∧ (∀ c ∈ tl x, Ltr c) ∧ (∀ c ∈ tl y, Ltr c) ∧ levF (tl a) (tl b) = Mine.dp (tl x) (tl y) y.length x.length) F1 ?_ ?_
  · refine wpAny_If ?_
    k_steps
    all_goals ((rename Fr _ _ _ _ => FE); (rename News _ _ _ _ => NE); refine' cut_intro FE NE ⟨_, _, _, _, rfl, rfl, ?e⟩ ?hk ?hn; (case hk => kst_all); (case hn => first | exact fun _ h => h | kcj_all); (case e => first | exact ⟨hy', hx', by omega, by omega, ly', lx', hres.trans (core_lt (by omega) (by omega) (by omega))⟩ | exact ⟨hx', hy', by omega, by omega, lx', ly', hres.trans (core_ge (by omega) (by omega) (by omega))⟩))
  try clear F1
  try clear N1
  rintro ps nx u h tk ⟨x, y, t1, t2, rfl, rfl, hx, hy, h1x, hxy, lx, ly, hres⟩ F1 N1
  dsimp only [kstB] at F1
  k_steps
  refine Hold.mk ?_
  k_with "state" => exact out_start x y
  focus
    k_state (fun pre row result => OutW x y pre.length row result) "row" "result"
    · have hO : OutW x y kPre.length _ _ := ⟨by assumption, by assumption, by assumption⟩
      obtain ⟨i, hi⟩ : ∃ i : Nat, kPre.length = i := ⟨_, rfl⟩
      have hkN : kN = 0 + (i : Int) := by omega
      subst hkN
      rw [hi] at hO
      k_steps
      refine Hold.mk ?_
      k_with "state" => exact in_start hO
      focus
        k_state (fun pre row distance result minimum => InW x y i pre.length row distance result minimum) "row" "distance" "result" "minimum"
        · have hiy : i < y.length := by omega
          k_with "state" => exact in_turnA hiy hx hy (by assumption) (by assumption) (by assumption) (by assumption) (by assumption) (by assumption) rfl
          k_with "state" => exact in_turnB hiy hx hy (by assumption) (by assumption) (by assumption) (by assumption) (by assumption) (by assumption) rfl (by first | assumption | simp_all)
          k_steps
        · have hI : InW x y i (rangeKs 0 ((x.length : Int) - 0).toNat).length _ _ _ _ := ⟨by assumption, by assumption, by assumption, by assumption, by assumption⟩
          obtain ⟨hE, hm⟩ := in_end hI h1x
          k_with "state" => exact out_turn hE hi
          k_steps
    · have hE : OutW x y (rangeKs 0 ((y.length : Int) - 0).toNat).length _ _ := ⟨by assumption, by assumption, by assumption⟩
      have hr := out_end hE (by omega)
      k_steps
      exact cb_retI hret (hr.trans hres.symm) (by k_asm) (by first | k_asm | (refine' cb_drop ?cbN ?cbS; (case cbN => assumption); (case cbS => kcj_all)))
  · exact cb_retI hret ((core_empty (by omega)).trans hres.symm) (by k_asm) (by k_asm)
  · exact cb_retI hret ((core_empty (by omega)).trans hres.symm) (by k_asm) (by k_asm))
end Mine
end
section
open PySem PySem.W PyProof.Rows
namespace Mine
def EachEnd {σ : Type} (h₀ : Heap) (L : Addr) (s : Shared) (ps : σ → List (Str × Value)) (J : σ → Prop) (need : List (Addr × Obj)) (s₂ : Shared) : Prop :=
  ∃ h' tk m' c', s₂ = { s with heap := h', toks := tk } ∧ Fr h₀ L h' m' ∧ News h₀ L h' need ∧ (∀ p ∈ ps c', m' p.1 = some p.2) ∧ J c'
def EachPost {σ : Type} (h₀ : Heap) (L : Addr) (s : Shared) (ps : σ → List (Str × Value)) (J : σ → Prop) (need : List (Addr × Obj)) (Q : Flow → Shared → Prop) (f : Flow) (s₂ : Shared) : Prop :=
  match f with
  | .ret v => Q (.ret v) s₂
  | .brk => Q .next s₂
  | _ => EachEnd h₀ L s ps J need s₂
theorem each_end {σ : Type} {h₀ : Heap} {L : Addr} {s : Shared} {ps : σ → List (Str × Value)} {J : σ → Prop} {need news' : List (Addr × Obj)} {h' : Heap} {tk : Nat} {m' : Str → Option Value} (c' : σ)
    (F : Fr h₀ L h' m') (N : News h₀ L h' news') (hn : ∀ p ∈ need, p ∈ news') (hk : ∀ p ∈ ps c', m' p.1 = some p.2) (hj : J c') : EachEnd h₀ L s ps J need { s with heap := h', toks := tk } :=
  ⟨h', tk, m', c', rfl, F, fun p hp => N p (hn p hp), hk, hj⟩
theorem kstB_self {m : Str → Option Value} {ps : List (Str × Value)} (hk : ∀ p ∈ ps, m p.1 = some p.2) : kstB m ps = m := by
  funext z
  exact kstB_eq hk fun _ => rfl
section
variable {prog : Program} {w : World} {A : Around} {E : Value → Shared → Prop} {s : Shared} {env : Env} {h₀ : Heap} {x : Str} {body : List Stmt} {Q : Flow → Shared → Prop}
theorem loop_each {σ : Type} {I : Addr} {fp wr : List Addr} {n : Nat} {P : Nat → Value → Prop} {St : Nat → Heap → Prop} {m₀ : Str → Option Value} {news : List (Addr × Obj)} (ps : σ → List (Str × Value)) (J : Nat → σ → Prop) (c₀ : σ)
    (W : Walks prog w A I fp wr n P St) (hLf : env.locals ∉ fp) (hwr : ∀ b ∈ wr, h₀.get? b = none) (hnw : ∀ p ∈ news, p.1 ∉ wr) (hst : St 0 s.heap) (F : Fr h₀ env.locals s.heap m₀) (N : News h₀ env.locals s.heap news)
    (hk : ∀ p ∈ ps c₀, m₀ p.1 = some p.2) (hj : J 0 c₀)
    (turn : ∀ i v c u h tk own, i < n → P i v → J i c → Fr h₀ env.locals h (fun y => if y = x then some v else kstB u (ps c) y) → News h₀ env.locals h (news ++ own) →
      wpAny (model prog w) A (execs body env) (EachPost h₀ env.locals { s with heap := h, toks := tk } ps (J (i + 1)) (news ++ own) Q) E { s with heap := h, toks := tk })
    (done : ∀ c u h tk, J n c → Fr h₀ env.locals h (kstB u (ps c)) → News h₀ env.locals h news → Q .next { s with heap := h, toks := tk }) :
    LoopAtV prog w A h₀ env x body Q E (.ref I) s := by
  refine ⟨I, fp, wr, n, P, St, m₀, news, (fun i m nx => nx = news ∧ ∃ c, J i c ∧ ∀ p ∈ ps c, m p.1 = some p.2), rfl, W, hLf, hwr, hnw, hst, F, N, ⟨rfl, c₀, hj, hk⟩, ?_, ?_⟩
  · rintro i v m₁ news₁ s₁ own ⟨h, tk, rfl⟩ hin hP ⟨rfl, c, hJ, hc⟩ hoff hown _ _ _ F₁ N₁
    rw [← kstB_self hc] at F₁
    have N₂ : News h₀ env.locals h (news₁ ++ own) := fun p hp => N₁ p ((List.mem_append.mp hp).elim (fun q => List.mem_append.mpr (.inr q)) fun q => List.mem_append.mpr (.inl q))
    refine wpAny_mono (turn i v c m₁ h tk own hin hP hJ F₁ N₂) (fun f s₂ p => ?_) fun _ _ e => e
    have fin : EachEnd h₀ env.locals { s with heap := h, toks := tk } ps (J (i + 1)) (news₁ ++ own) s₂ →
        LoopStepU h₀ env.locals wr own (fun m nx => nx = news₁ ∧ ∃ c, J (i + 1) c ∧ ∀ p ∈ ps c, m p.1 = some p.2) { s with heap := h, toks := tk } .next s₂ := by
      rintro ⟨h', tk', m', c', e, F', N', hk', hj'⟩
      exact ⟨rfl, h', tk', m', news₁, e, F', fun p hp => N' p ((List.mem_append.mp hp).elim (fun q => List.mem_append.mpr (.inr q)) fun q => List.mem_append.mpr (.inl q)), hoff, rfl, c', hj', hk'⟩
    cases f with
    | ret v => exact .ret p
    | brk => exact .brk p
    | next => exact .next (fin p)
    | cont => exact .cont (fin p)
  · rintro h' tk m' news' F' N' _ ⟨rfl, c, hJ, hc⟩
    rw [← kstB_self hc] at F'
    exact done c m' h' tk hJ F' N'

theorem each_list {σ : Type} {l : Addr} {vs : List Value} {nn : Nat} {m₀ : Str → Option Value} {news : List (Addr × Obj)} (ps : σ → List (Str × Value)) (J : Nat → σ → Prop) (c₀ : σ)
    (hh : A.handled = none) (F : Fr h₀ env.locals s.heap m₀) (N : News h₀ env.locals s.heap news) (hl : (l, listOf vs.toArray nn) ∈ news)
    (hk : ∀ p ∈ ps c₀, m₀ p.1 = some p.2) (hj : J 0 c₀)
    (turn : ∀ i v c u h tk own, vs[i]? = some v → J i c → Fr h₀ env.locals h (fun y => if y = x then some v else kstB u (ps c) y) → News h₀ env.locals h (news ++ own) →
      wpAny (model prog w) A (execs body env) (EachPost h₀ env.locals { s with heap := h, toks := tk } ps (J (i + 1)) (news ++ own) Q) E { s with heap := h, toks := tk })
    (done : ∀ c u h tk, J vs.length c → Fr h₀ env.locals h (kstB u (ps c)) → News h₀ env.locals h news → Q .next { s with heap := h, toks := tk }) :
    wpAny (model prog w) A (pyIter (.ref l)) (fun it s₂ => LoopAtV prog w A h₀ env x body Q E it s₂) E s := by
  have hol : s.heap.get? l = some (listOf vs.toArray nn) := (N _ hl).1
  have hls : s.heap.IsList l vs.toArray := ⟨_, hol, rfl, nn, rfl⟩
  have hne : l ≠ s.heap.objs.size := Nat.ne_of_lt (Heap.lt_size hol)
  refine wpAny_pyIter_list hls ?_
  refine loop_each ps J c₀ (Walks.list (prog := prog) (w := w) hh s.heap.objs.size l hne vs.toArray) ?_ ?_ ?_ ⟨⟨_, Heap.get?_push_size _ rfl, rfl, rfl⟩, hls.at fun o e => Heap.get?_push_of_some _ e⟩ (F.push _) (fun p hp => ⟨Heap.get?_push_of_some _ (N p hp).1, (N p hp).2⟩) hk hj ?_ ?_
  · intro hm
    rcases List.mem_cons.mp hm with e | hm
    · exact absurd F.ns.lt (e ▸ Nat.lt_irrefl _)
    · exact (N _ hl).2.1 ((List.mem_singleton.mp hm).symm)
  · intro b hb
    rw [List.mem_singleton.mp hb]
    exact next_is_new F
  · intro p hp hI
    exact absurd (Heap.lt_size (N p hp).1) ((List.mem_singleton.mp hI) ▸ Nat.lt_irrefl _)
  · intro i v c u h tk own _ hP hJ F₁ N₁
    exact turn i v c u h tk own (by simpa using hP) hJ F₁ N₁
  · intro c u h tk hJ F₁ N₁
    exact done c u h tk (by simpa using hJ) F₁ N₁

theorem each_range {σ : Type} {r : Addr} {a b : Int} {t₀ u₀ v₀ : Tok} {n : Nat} {m₀ : Str → Option Value} {news : List (Addr × Obj)} (ps : σ → List (Str × Value)) (J : Nat → σ → Prop) (c₀ : σ)
    (hh : A.handled = none) (hr : IsRange s.heap r a b 1 t₀ u₀ v₀) (ha : 0 ≤ a ∧ a ≤ 1000 ∧ -1000 ≤ b ∧ b ≤ 1000) (hn : n = (b - a).toNat) (F : Fr h₀ env.locals s.heap m₀) (N : News h₀ env.locals s.heap news)
    (hk : ∀ p ∈ ps c₀, m₀ p.1 = some p.2) (hj : J 0 c₀)
    (turn : ∀ i t c u h tk own, i < n → J i c → Fr h₀ env.locals h (fun y => if y = x then some (.int (a + (i : Int)) t) else kstB u (ps c) y) → News h₀ env.locals h (news ++ own) →
      wpAny (model prog w) A (execs body env) (EachPost h₀ env.locals { s with heap := h, toks := tk } ps (J (i + 1)) (news ++ own) Q) E { s with heap := h, toks := tk })
    (done : ∀ c u h tk, J n c → Fr h₀ env.locals h (kstB u (ps c)) → News h₀ env.locals h news → Q .next { s with heap := h, toks := tk }) :
    wpAny (model prog w) A (pyIter (.ref r)) (fun it s₂ => LoopAtV prog w A h₀ env x body Q E it s₂) E s := by
  have hsmall : Builtin.Range.small a b 1 = true := small_one (by omega) (by omega) (by omega) (by omega)
  have hsz : Builtin.Range.rangeSize a b 1 = (n : Int) := by rw [rangeSize_nat, hn]
  refine wpAny_pyIter_range hr hsmall ?_
  have W : Walks prog w A s.heap.objs.size [s.heap.objs.size] [s.heap.objs.size] n (fun i v => i < n ∧ ∃ t, v = .int (a + i * 1) t)
      (fun i h => IsRangeIter h s.heap.objs.size (a + (i : Nat) * 1) ((n : Int) - (i : Nat)) 1) := (Walks.range hh _ a 1 n).bound
  refine loop_each ps J c₀ W ?_ ?_ ?_ (by show IsRangeIter _ _ _ _ _; rw [hsz]; simpa using Heap.get?_push_size _ rfl) (F.push _) (fun p hp => ⟨Heap.get?_push_of_some _ (N p hp).1, (N p hp).2⟩) hk hj ?_ done
  · intro hm
    exact absurd F.ns.lt ((List.mem_singleton.mp hm) ▸ Nat.lt_irrefl _)
  · intro b hb
    rw [List.mem_singleton.mp hb]
    exact next_is_new F
  · intro p hp hI
    exact absurd (Heap.lt_size (N p hp).1) ((List.mem_singleton.mp hI) ▸ Nat.lt_irrefl _)
  · rintro i v c u h tk own hi ⟨_, t, rfl⟩ hJ F₁ N₁
    have e1 : a + (i : Int) * 1 = a + (i : Int) := by omega
    rw [e1] at F₁
    exact turn i t c u h tk own hi hJ F₁ N₁

theorem each_str {σ : Type} {xt : Str} {tx : Tok} {m₀ : Str → Option Value} {news : List (Addr × Obj)} (ps : σ → List (Str × Value)) (J : Nat → σ → Prop) (c₀ : σ)
    (hh : A.handled = none) (F : Fr h₀ env.locals s.heap m₀) (N : News h₀ env.locals s.heap news)
    (hk : ∀ p ∈ ps c₀, m₀ p.1 = some p.2) (hj : J 0 c₀)
    (turn : ∀ i q t c u h tk own, (tl xt)[i]? = some q → J i c → Fr h₀ env.locals h (fun y => if y = x then some (.str ⟨#[q]⟩ t) else kstB u (ps c) y) → News h₀ env.locals h (news ++ own) →
      wpAny (model prog w) A (execs body env) (EachPost h₀ env.locals { s with heap := h, toks := tk } ps (J (i + 1)) (news ++ own) Q) E { s with heap := h, toks := tk })
    (done : ∀ c u h tk, J xt.length c → Fr h₀ env.locals h (kstB u (ps c)) → News h₀ env.locals h news → Q .next { s with heap := h, toks := tk }) :
    wpAny (model prog w) A (pyIter (.str xt tx)) (fun it s₂ => LoopAtV prog w A h₀ env x body Q E it s₂) E s := by
  refine wpAny_pyIter_str fun o St hW hst => ?_
  refine loop_each ps J c₀ (hW A hh) ?_ ?_ ?_ hst (F.push _) (fun p hp => ⟨Heap.get?_push_of_some _ (N p hp).1, (N p hp).2⟩) hk hj ?_ done
  · intro hm
    exact absurd F.ns.lt ((List.mem_singleton.mp hm) ▸ Nat.lt_irrefl _)
  · intro b hb
    rw [List.mem_singleton.mp hb]
    exact next_is_new F
  · intro p hp hI
    exact absurd (Heap.lt_size (N p hp).1) ((List.mem_singleton.mp hI) ▸ Nat.lt_irrefl _)
  · rintro i v c u h tk own hi ⟨q, t, hq, rfl⟩ hJ F₁ N₁
    exact turn i q t c u h tk own (by simpa using hq) hJ F₁ N₁
end
end Mine
end
section
open PySem PySem.Builtin PySem.Builtin.Str PySem.W PyProof.Rows
namespace Mine
abbrev dots : Str := Str.ofString "..."
def fnd (x y : Str) (i j : Nat) : Int := match occurrences x y i (min j x.length) 1 with | k :: _ => (k : Int) | [] => -1
theorem gives_find4 (x y : Str) (i j : Nat) (t u v w : Tok) : Gives («str.find» ⟨[.str x t, .str y u, .int (i : Int) v, .int (j : Int) w], []⟩) (.int (fnd x y i j)) := by
  have e1 : (max 0 (if (i : Int) < 0 then (i : Int) + x.length else (i : Int))).toNat = i := by rw [if_neg (by omega)]; omega
  have e2 : (max 0 (if (j : Int) < 0 then (j : Int) + x.length else (j : Int))).toNat = j := by rw [if_neg (by omega)]; omega
  show Gives (match occurrences x y (max 0 (if (i : Int) < 0 then (i : Int) + x.length else (i : Int))).toNat (min (max 0 (if (j : Int) < 0 then (j : Int) + x.length else (j : Int))).toNat x.length) 1 with | k :: _ => retInt k | [] => (do rule "str.find.not-found"; retInt (-1))) _
  rw [e1, e2]
  unfold fnd
  cases occurrences x y i (min j x.length) 1 with
  | nil => exact .rule (.of_eq rfl)
  | cons k _ => exact .of_eq rfl
section
variable {prog : Program} {w : World} {A : Around} {E : Value → Shared → Prop} {s : Shared}
theorem call_find4 {x y : Str} {t u v v2 : Tok} {i j : Int} {Q : Value → Shared → Prop} (hi : 0 ≤ i) (hj : 0 ≤ j) (hq : Q (.int (fnd x y i.toNat j.toNat) s.toks) { s with toks := s.toks + 1 }) :
    wpAny (model prog w) A (call (.builtin "str.find") [.str x t, .str y u, .int i v, .int j v2]) Q E s := by
  obtain ⟨i, rfl⟩ := Int.eq_ofNat_of_zero_le hi
  obtain ⟨j, rfl⟩ := Int.eq_ofNat_of_zero_le hj
  exact call_gives F.slot_str_find (typeIs_str _ _ _) F.entry_str_find (F.args_str_find_4 _ _ _ _) (gives_find4 x y i j t u v v2) hq
end
theorem strs_of_numbered : ∀ (l : List (Str × Tok)) (ys : List Str), l.map (·.1) = ys → StrsAre (strValues l) ys
  | [], _, h => by subst h; exact .nil
  | p :: r, _, h => by subst h; exact .cons _ _ (strs_of_numbered r _ rfl)
theorem strs_append : ∀ (as bs : List Str) (vs : List Value), StrsAre vs (as ++ bs) → ∃ us ws, vs = us ++ ws ∧ StrsAre us as ∧ StrsAre ws bs
  | [], bs, vs, h => ⟨[], vs, rfl, .nil, h⟩
  | a :: as, bs, vs, h => by
    cases h with
    | cons y t hr =>
      obtain ⟨us, ws, rfl, h1, h2⟩ := strs_append as bs _ hr
      exact ⟨_ :: us, ws, rfl, .cons _ _ h1, h2⟩
theorem news_ne {d : Addr} {news : List (Addr × Obj)} (h : AllLt d news) : ∀ p ∈ news, p.1 ≠ d := fun p hp => Nat.ne_of_lt (ktn_ltOf h p hp)
section
variable {prog : Program} {w : World} {A : Around} {E : Value → Shared → Prop} {s : Shared} {h₀ : Heap} {L : Addr} {m : Str → Option Value} {news : List (Addr × Obj)}
theorem split_rule {x y : Str} {t u : Tok} {p z : Str} {mid : List Str} {Q : Value → Shared → Prop} (hsp : Txt.split x y = p :: (mid ++ [z])) (F : Fr h₀ L s.heap m) (N : News h₀ L s.heap news) (hy : (y.length == 0) = false) (hx : x.length ≤ 1000)
    (h : ∀ h' k tp tz mv, StrsAre mv mid → Fr h₀ L h' m → News h₀ L h' ((s.heap.objs.size, listOf ((Value.str p tp :: mv) ++ [Value.str z tz]).toArray 0) :: news) → (∀ p ∈ news, p.1 < s.heap.objs.size) → Q (.ref s.heap.objs.size) { s with heap := h', toks := k }) :
    wpAny (model prog w) A (call (.builtin "str.split") [.str x t, .str y u]) Q E s := by
  have hlt : ∀ p ∈ news, p.1 < s.heap.objs.size := fun p hp => Heap.lt_size (N p hp).1
  refine splitN1 F N hy (fun l h' k e F' N' => ?_) (by rw [sizeLine_eq]; omega)
  have hs := strs_of_numbered l _ (e.trans hsp)
  generalize strValues l = vs at N' hs
  cases hs with
  | cons a b hr =>
    obtain ⟨us, ws, rfl, h1, h2⟩ := strs_append _ _ _ hr
    cases h2 with
    | cons a2 b2 hr2 =>
      cases hr2
      exact h h' k _ _ us h1 F' N' hlt

theorem del_head {l : Addr} {v : Value} {vs : List Value} {c : Nat} {u : Tok} {Q : Unit → Shared → Prop} (F : Fr h₀ L s.heap m) (N : News h₀ L s.heap ((l, listOf (v :: vs).toArray c) :: news)) (hlt : AllLt l news) (hsz : vs.length ≤ 1000)
    (h : ∀ h' c', Fr h₀ L h' m → News h₀ L h' ((l, listOf vs.toArray c') :: news) → Q () { s with heap := h' }) :
    wpAny (model prog w) A (delItem (.ref l) (.int 0 u)) Q E s := by
  have hl : IsL s.heap l (v :: vs).toArray c := (N _ (.head _)).1
  refine P.delItem_list (k := 0) hl (by decide) (by simp [seqIndex?]) ?_ (by rw [sizeLine_eq]; simp; omega)
  have hne := news_ne hlt
  have key := news_upd (pre := []) (f := Obj.mapSeq fun xs => xs.eraseIdxIfInBounds 0) (o' := listOf vs.toArray (c + 1)) F N (fun _ h => nomatch h) hne (by simp [Obj.mapSeq]) rfl
  exact h _ _ key.1 key.2

theorem del_last {l : Addr} {v : Value} {vs : List Value} {c : Nat} {u : Tok} {Q : Unit → Shared → Prop} (F : Fr h₀ L s.heap m) (N : News h₀ L s.heap ((l, listOf (vs ++ [v]).toArray c) :: news)) (hlt : AllLt l news) (hsz : vs.length ≤ 1000)
    (h : ∀ h' c', Fr h₀ L h' m → News h₀ L h' ((l, listOf vs.toArray c') :: news) → Q () { s with heap := h' }) :
    wpAny (model prog w) A (delItem (.ref l) (.int (-1) u)) Q E s := by
  have hl : IsL s.heap l (vs ++ [v]).toArray c := (N _ (.head _)).1
  refine P.delItem_list (k := vs.length) hl (by decide) (by simp [seqIndex?]; omega) ?_ (by rw [sizeLine_eq]; simp; omega)
  have hne := news_ne hlt
  have key := news_upd (pre := []) (f := Obj.mapSeq fun xs => xs.eraseIdxIfInBounds vs.length) (o' := listOf vs.toArray (c + 1)) F N (fun _ h => nomatch h) hne (by
    simp only [Obj.mapSeq]
    have e : ((vs ++ [v]).toArray.eraseIdxIfInBounds vs.length) = vs.toArray := by
      simp [List.eraseIdx_append_of_length_le]
    simp [e]) rfl
  exact h _ _ key.1 key.2

theorem item_head {value slice : PySem.Expr} {l : Addr} {v : Value} {vs : List Value} {c : Nat} {u : Tok} {Q : Value → Shared → Prop} (N : News h₀ L s.heap news) (hm : (l, listOf (v :: vs).toArray c) ∈ news) (h : Q v s)
    (hs : subscripted slice false (.ref l) (.int 0 u) = operate [.ref l, .int 0 u] (getItem (.ref l) (.int 0 u)) := by with_unfolding_all rfl) :
    wpAny (model prog w) A (subscriptTail value slice (.ref l) (.int 0 u)) Q E s :=
  item_litK (vs := v :: vs) ⟨_, (N _ hm).1, rfl, c, rfl⟩ (by decide) (by decide) rfl h hs
theorem item_last {value slice : PySem.Expr} {l : Addr} {v : Value} {vs : List Value} {c : Nat} {u : Tok} {Q : Value → Shared → Prop} (N : News h₀ L s.heap news) (hm : (l, listOf (vs ++ [v]).toArray c) ∈ news) (h : Q v s)
    (hs : subscripted slice false (.ref l) (.int (-1) u) = operate [.ref l, .int (-1) u] (getItem (.ref l) (.int (-1) u)) := by with_unfolding_all rfl) :
    wpAny (model prog w) A (subscriptTail value slice (.ref l) (.int (-1) u)) Q E s := by
  have hl : s.heap.IsList l (vs ++ [v]).toArray := ⟨_, (N _ hm).1, rfl, c, rfl⟩
  refine tail_any hl.typeIs slot_list_getitem.lookup (wpAny_getItem_list_neg hl (by decide) (by simp; omega) (by decide) ?_ h) hs
  have e : ((-1 : Int) + ((vs ++ [v]).toArray.size : Nat)).toNat = vs.length := by simp; omega
  rw [e]
  simp
theorem len_ws {l : Addr} {v z : Value} {mv : List Value} {mid : List Str} {c : Nat} {Q : Value → Shared → Prop} (N : News h₀ L s.heap news) (hm : (l, listOf ((v :: mv) ++ [z]).toArray c) ∈ news) (hmv : StrsAre mv mid) (hsz : mid.length ≤ 1000)
    (h : ∀ t k, Q (.int ((mid.length : Int) + 2) t) { s with toks := k }) : wpAny (model prog w) A (call (.builtin "len") [.ref l]) Q E s := by
  refine kst_len (k := mid.length + 2) N hm (by simp [hmv.length]) (by omega) ?_
  have e : ((mid.length + 2 : Nat) : Int) = (mid.length : Int) + 2 := by omega
  rw [e]
  exact h _ _
end
def ellLoop (got : Str) (e : Nat) : List Str → Int → Bool
  | [], _ => true
  | w :: ws, s => if fnd got w s.toNat e < 0 then false else ellLoop got e ws (fnd got w s.toNat e + w.length)
def headE (p : Str) : List Str := if p.length = 0 then [p] else []
def ellF (got p z : Str) (mid : List Str) : Bool :=
  if p.length ≠ 0 ∧ Txt.startswith got p = false then false
  else if z.length ≠ 0 ∧ Txt.endswith got z = false then false
  else if (got.length : Int) - z.length < p.length then false
  else ellLoop got ((got.length : Int) - z.length).toNat (headE p ++ mid ++ headE z) p.length

def CutR (h₀ : Heap) (L : Addr) (s : Shared) (D : List (Str × Value) → List (Addr × Obj) → Prop) (Q : Flow → Shared → Prop) (f : Flow) (s₂ : Shared) : Prop :=
  match f with
  | .next => ∃ ps nx u h tk, s₂ = { s with heap := h, toks := tk } ∧ D ps nx ∧ Fr h₀ L h (kstB u ps) ∧ News h₀ L h nx
  | f => Q f s₂
section
variable {M : Model} {A : Around} {E : Value → Shared → Prop} {Q : Flow → Shared → Prop} {s s₂ : Shared} {h₀ : Heap} {L : Addr} {t : Sem Flow} {D : List (Str × Value) → List (Addr × Obj) → Prop}
theorem cutR_at (D : List (Str × Value) → List (Addr × Obj) → Prop) {m : Str → Option Value} (_F : Fr h₀ L s.heap m)
    (h1 : wpAny M A t (fun f s₂ => CutR h₀ L s D Q f s₂) E s)
    (h2 : ∀ ps nx u h tk, D ps nx → Fr h₀ L h (kstB u ps) → News h₀ L h nx → Q .next { s with heap := h, toks := tk }) : wpAny M A t Q E s := by
  refine wpAny_mono h1 (fun f s₂ c => ?_) fun _ _ e => e
  cases f with
  | next =>
    obtain ⟨ps, nx, u, h, tk, rfl, d, F, N⟩ := c
    exact h2 ps nx u h tk d F N
  | ret v => exact c
  | brk => exact c
  | cont => exact c
theorem cutR_ret {v : Value} (h : Q (.ret v) s₂) : CutR h₀ L s D Q (.ret v) s₂ := h
theorem cutR_intro {ps : List (Str × Value)} {nx news' : List (Addr × Obj)} {m' : Str → Option Value} {h : Heap} {tk : Nat} (F : Fr h₀ L h m') (N : News h₀ L h news')
    (d : D ps nx) (hk : ∀ p ∈ ps, m' p.1 = some p.2) (hn : ∀ p ∈ nx, p ∈ news') : CutR h₀ L s D Q .next { s with heap := h, toks := tk } := by
  refine ⟨ps, nx, m', h, tk, rfl, d, ?_, fun p hp => N p (hn p hp)⟩
  rw [kstB_self hk]
  exact F
end
theorem news_tail {h₀ h : Heap} {L : Addr} {q : Addr × Obj} {r : List (Addr × Obj)} (N : News h₀ L h (q :: r)) : News h₀ L h r := fun p hp => N p (.tail _ hp)
theorem ws_ne {p : Str} {mv : List Value} {mid : List Str} (h : p.length ≠ 0) (hm : StrsAre mv mid) : StrsAre mv (headE p ++ mid) := by
  unfold headE
  rw [if_neg h]; exact hm
theorem ws_eq {p : Str} {t : Tok} {mv : List Value} {mid : List Str} (h : p.length = 0) (hm : StrsAre mv mid) : StrsAre (Value.str p t :: mv) (headE p ++ mid) := by
  unfold headE
  rw [if_pos h]; exact .cons _ _ hm
theorem ws_ne2 {z : Str} {us : List Value} {ws : List Str} (h : z.length ≠ 0) (hm : StrsAre us ws) : StrsAre us (ws ++ headE z) := by
  unfold headE
  rw [if_neg h, List.append_nil]; exact hm
theorem ws_eq2 {z : Str} {t : Tok} {us : List Value} {ws : List Str} (h : z.length = 0) (hm : StrsAre us ws) : StrsAre (us ++ [Value.str z t]) (ws ++ headE z) := by
  unfold headE
  rw [if_pos h]; exact StrsAre.append' hm (.cons _ _ .nil)
theorem ellF_no1 {b p z : Str} {mid : List Str} (h : p.length ≠ 0) (h2 : Txt.startswith b p = false) : false = ellF b p z mid := by
  unfold ellF
  rw [if_pos ⟨h, h2⟩]
theorem ellF_no2 {b p z : Str} {mid : List Str} (h : z.length ≠ 0) (h2 : Txt.endswith b z = false) : false = ellF b p z mid := by
  unfold ellF
  split
  · rfl
  · rw [if_pos ⟨h, h2⟩]
theorem ellF_no3 {b p z : Str} {mid : List Str} (h : (b.length : Int) - z.length < p.length) : false = ellF b p z mid := by
  unfold ellF
  split
  · rfl
  · split
    · rfl
    · first | rfl | rw [if_pos h]
theorem ellF_loop {b p z : Str} {mid : List Str} (h1 : ¬ (p.length ≠ 0 ∧ Txt.startswith b p = false)) (h2 : ¬ (z.length ≠ 0 ∧ Txt.endswith b z = false)) (h : ¬ (b.length : Int) - z.length < p.length) :
    ellF b p z mid = ellLoop b ((b.length : Int) - z.length).toNat (headE p ++ mid ++ headE z) p.length := by
  unfold ellF
  rw [if_neg h1, if_neg h2, if_neg h]
theorem drop_of_get {α : Type} {l : List α} {i : Nat} {y : α} (h : l[i]? = some y) : l.drop i = y :: l.drop (i + 1) := by
  obtain ⟨hlt, he⟩ := List.getElem?_eq_some_iff.mp h
  rw [List.drop_eq_getElem_cons hlt, he]
theorem ellLoop_stop {r : Bool} {b y : Str} {e : Nat} {l : List Str} {i : Nat} {pos : Int} (h : r = ellLoop b e (l.drop i) pos) (hy : l[i]? = some y) (hf : fnd b y pos.toNat e < 0) : false = r := by
  rw [h, drop_of_get hy, ellLoop, if_pos hf]
theorem ellLoop_step {r : Bool} {b y : Str} {e : Nat} {l : List Str} {i : Nat} {pos : Int} (h : r = ellLoop b e (l.drop i) pos) (hy : l[i]? = some y) (hf : ¬ fnd b y pos.toNat e < 0) : r = ellLoop b e (l.drop (i + 1)) (fnd b y pos.toNat e + y.length) := by
  rw [h, drop_of_get hy, ellLoop, if_neg hf]
theorem ellLoop_done {r : Bool} {b : Str} {e : Nat} {l : List Str} {i : Nat} {pos : Int} (h : r = ellLoop b e (l.drop i) pos) (hi : i = l.length) : true = r := by
  rw [h, hi, List.drop_length, ellLoop]
theorem ws_len {p z : Str} {mid : List Str} (hp : p.length ≤ 100) (hz : z.length ≤ 100) (hw : ∀ y ∈ mid, y.length ≤ 100) : ∀ y ∈ headE p ++ mid ++ headE z, y.length ≤ 100 := by
  intro y hy
  have hE : ∀ q : Str, q.length ≤ 100 → y ∈ headE q → y.length ≤ 100 := by
    intro q hq h
    unfold headE at h
    split at h
    · rw [List.mem_singleton.mp h]; exact hq
    · exact nomatch h
  rcases List.mem_append.mp hy with h | h
  · rcases List.mem_append.mp h with h | h
    · exact hE p hp h
    · exact hw y h
  · exact hE z hz h
end Mine
end
section
open PySem PySem.W PyProof.Rows
namespace Mine
local macro_rules | `(tactic| walk_at "pyIter ref") => `(tactic| (refine Hold.out ?_))
local macro_rules | `(tactic| walk_at "call builtin:str.split") => `(tactic| (k_here; (rename Fr _ _ _ _ => lF'); (rename News _ _ _ _ => lN'); (refine' split_rule ?sp lF' lN' ?hy ?hx ?_); (case sp => assumption); (case hy => decide +kernel); (case hx => omega); intro h' k' tp' tz' mv' hmv' F' N' l1; (k_lt l1); clear lF' lN'))
local macro_rules | `(tactic| walk_at "call builtin:len") => `(tactic| (k_here; (with_reducible show wpAny _ _ (call _ [Value.ref _]) _ _ _); (rename News _ _ _ _ => lN'); k_dflt (refine' len_ws lN' ?hm ?hv ?hs ?_; (case hm => k_mem); (case hv => assumption); (case hs => omega)); intro t' k'))
local macro_rules | `(tactic| walk_at "subscriptTail Name Constant ref int") => `(tactic| (k_here; (with_reducible show wpAny _ _ (subscriptTail _ _ (Value.ref _) (Value.int 0 _)) _ _ _); (rename News _ _ _ _ => lN'); k_dflt (refine' item_head lN' ?hm ?_; (case hm => k_mem))))
local macro_rules | `(tactic| walk_at "exec If") => `(tactic| ((with_reducible show wpAny _ _ (exec (Stmt.If (PySem.Expr.Name (Str.ofString "w") _) _ _ _) _) _ _ _); refine Hold.out ?_))
local macro_rules | `(tactic| walk_at "subscriptTail Name UnaryOp ref int") => `(tactic| (k_here; (with_reducible show wpAny _ _ (subscriptTail _ _ (Value.ref _) (Value.int (-1) _)) _ _ _); (rename News _ _ _ _ => lN'); k_dflt (refine' item_last lN' ?hm ?_; (case hm => k_mem))))
local macro_rules | `(tactic| walk_at "delItem ref int") => `(tactic| (k_here; (with_reducible show wpAny _ _ (delItem (Value.ref _) (Value.int (-1) _)) _ _ _); (rename Fr _ _ _ _ => lF'); (rename News _ _ _ _ => lN'); k_dflt (refine' del_last lF' lN' ?hl ?hs ?_); (case hl => assumption); (case hs => first | omega | ((rename StrsAre _ _ => hS9); (have hL9 := StrsAre.length hS9); (simp only [List.length_append, List.length_cons, List.length_nil]); omega)); intro h' c' F' N'; clear lF' lN'))
local macro_rules | `(tactic| walk_at "delItem ref int") => `(tactic| (k_here; (with_reducible show wpAny _ _ (delItem (Value.ref _) (Value.int 0 _)) _ _ _); (rename Fr _ _ _ _ => lF'); (rename News _ _ _ _ => lN'); k_dflt (refine' del_head lF' lN' ?hl ?hs ?_); (case hl => assumption); (case hs => first | omega | ((rename StrsAre _ _ => hS9); (have hL9 := StrsAre.length hS9); (simp only [List.length_append, List.length_cons, List.length_nil]); omega)); intro h' c' F' N'; clear lF' lN'))
local macro_rules | `(tactic| walk_at "exec For Name Name cons nil") => `(tactic| (k_here; (rename Fr _ _ _ _ => lF'); (with_unfolding_all refine' For_invVF lF' ?k1 ?k2 ?_; (case k1 => exact rfl); (case k2 => exact rfl));))
local macro_rules | `(tactic| walk_at "call builtin:str.find") => `(tactic| (refine call_find4 (by omega) (by omega) ?_))
local macro_rules | `(tactic| walk_at "EachPost") => `(tactic| (dsimp only [EachPost]))
local macro_rules | `(tactic| walk_at "CutR") => `(tactic| (refine cutR_ret ?_))
theorem ell_C (w : World) (mean : ExcName → Option Value) (mg mb : Str → Option Value) (a b p z : Str) (mid : List Str) (ta tb : Tok) (ha : a.length ≤ 100) (hb : b.length ≤ 20) (hm : mid.length ≤ 50) (hp : p.length ≤ 100) (hz : z.length ≤ 100) (hw : ∀ y ∈ mid, y.length ≤ 100) (hc : (Builtin.Str.occurrences a (Str.ofString "...") 0 a.length 1).isEmpty = false) (hsp : Txt.split a (Str.ofString "...") = p :: (mid ++ [z])) :
    Claim 1 w mean mg mb 35 [Value.str a ta, .str b tb] (fun t => .bool (ellF b p z mid)) := by
  unfold Claim
  k_with_none
  k_fill
  w_strict (
  intro dp un gd cn cs fa ccd cl outer A₀ base h₀ L m news s Q E hB hF hX hN hT hcs hdp hun hret
  refine wpAny_call ?_
  k_dflt cell_enter
  have kMark : KstMark := kstMark
  k_steps
  refine Hold.mk ?_
  rename Fr _ _ _ _ => F1
  rename News _ _ _ _ => N1
  replace N1 := news_tail N1
  refine cutR_at (fun ps nx => ∃ t1 t2 ad us tz c, ps = [(Str.ofString "got", Value.str b tb), (Str.ofString "startpos", .int (p.length : Int) t1), (Str.ofString "endpos", .int (b.length : Int) t2), (Str.ofString "ws", .ref ad)] ∧ nx = (ad, W.listOf (us ++ [Value.str z tz]).toArray c) :: news ∧ AllLt ad news ∧ us.length ≤ 60 ∧ StrsAre us (headE p ++ mid) ∧ ¬ (p.length ≠ 0 ∧ Txt.startswith b p = false)) F1 ?_ ?_
  · refine wpAny_If ?_
    k_steps
    · (rename Fr _ _ _ _ => FE); (rename News _ _ _ _ => NE)
      refine' cutR_intro FE NE ⟨_, _, _, _, _, _, rfl, rfl, ?l, ?s, ?st, ?e⟩ ?hk ?hn
      case hk => kst_all
      case hn => kst_in
      case l => assumption
      case s => (have hL9 := StrsAre.length (by assumption : StrsAre _ mid)); omega
      case st => exact ws_ne (by omega) (by assumption)
      case e => exact fun h => Bool.false_ne_true (h.2.symm.trans (by assumption))
    · exact cb_retB hret (ellF_no1 (by omega) (by assumption)) (by k_asm) (by first | k_asm | (refine' cb_drop ?cbN ?cbS; (case cbN => assumption); (case cbS => kcj_all)))
    · (rename Fr _ _ _ _ => FE); (rename News _ _ _ _ => NE)
      have h0 : (p.length : Int) = 0 := by omega
      refine' cutR_intro FE NE ⟨_, _, _, Value.str p _ :: _, _, _, ?pp, rfl, ?l, ?s, ?st, ?e⟩ ?hk ?hn
      case pp => rw [h0]
      case hk => kst_all
      case hn => kst_in
      case l => assumption
      case s => (have hL9 := StrsAre.length (by assumption : StrsAre _ mid)); simp only [List.length_cons]; omega
      case st => exact ws_eq (by omega) (by assumption)
      case e => exact fun h => absurd (by omega) h.1
  rintro ps nx u h tk ⟨t1, t2, ad, us, tz, c, rfl, rfl, hlt, hus, hS, hst⟩ F1 N1
  dsimp only [kstB] at F1
  k_steps
  refine Hold.mk ?_
  rename Fr _ _ _ _ => F1
  refine cutR_at (fun ps nx => ∃ t1 t2 us c, ps = [(Str.ofString "got", Value.str b tb), (Str.ofString "startpos", .int (p.length : Int) t1), (Str.ofString "endpos", .int ((b.length : Int) - z.length) t2), (Str.ofString "ws", .ref ad)] ∧ nx = (ad, W.listOf us.toArray c) :: news ∧ us.length ≤ 61 ∧ StrsAre us (headE p ++ mid ++ headE z) ∧ ¬ (z.length ≠ 0 ∧ Txt.endswith b z = false)) F1 ?_ ?_
  · refine wpAny_If ?_
    k_steps
    · (rename Fr _ _ _ _ => FE); (rename News _ _ _ _ => NE)
      refine' cutR_intro FE NE ⟨_, _, _, _, rfl, rfl, ?s, ?st, ?e⟩ ?hk ?hn
      case hk => kst_all
      case hn => kst_in
      case s => omega
      case st => exact ws_ne2 (by omega) (by assumption)
      case e => exact fun h => Bool.false_ne_true (h.2.symm.trans (by assumption))
    · exact cb_retB hret (ellF_no2 (by omega) (by assumption)) (by k_asm) (by first | k_asm | (refine' cb_drop ?cbN ?cbS; (case cbN => assumption); (case cbS => kcj_all)))
    · (rename Fr _ _ _ _ => FE); (rename News _ _ _ _ => NE)
      have h0 : (b.length : Int) - z.length = b.length := by omega
      refine' cutR_intro FE NE ⟨_, _, us ++ [Value.str z _], _, ?pp, rfl, ?s, ?st, ?e⟩ ?hk ?hn
      case pp => rw [h0]
      case hk => kst_all
      case hn => kst_in
      case s => simp only [List.length_append, List.length_cons, List.length_nil]; omega
      case st => exact ws_eq2 (by omega) (by assumption)
      case e => exact fun h => absurd (by omega) h.1
  rintro ps nx u h tk ⟨t1, t2, us, c, rfl, rfl, hus, hS, hen⟩ F1 N1
  dsimp only [kstB] at F1
  k_steps
  · exact cb_retB hret (ellF_no3 (by omega)) (by k_asm) (by first | k_asm | (refine' cb_drop ?cbN ?cbS; (case cbN => assumption); (case cbS => kcj_all)))
  refine Hold.mk ?_
  rename Fr _ _ _ _ => F1
  rename News _ _ _ _ => N1
  have hE0 := ellF_loop (mid := mid) hst hen (by omega)
  refine each_list (ps := fun c : Int × Tok => [(Str.ofString "got", Value.str b tb), (Str.ofString "startpos", .int c.1 c.2), (Str.ofString "endpos", .int ((b.length : Int) - z.length) t2)]) (J := fun i c => 0 ≤ c.1 ∧ ellF b p z mid = ellLoop b ((b.length : Int) - z.length).toNat ((headE p ++ mid ++ headE z).drop i) c.1) ((p.length : Int), t1) (by rfl) F1 N1 (.head _) (by kst_all) ⟨by omega, hE0⟩ ?_ ?_
  · clear F1 N1
    rintro i v ⟨pos, tp⟩ u h tk own hv ⟨hpos, hJ⟩ F1 N1
    obtain ⟨y, ty, rfl, hy⟩ := hS.item i v hv
    have hyl := ws_len hp hz hw y (List.mem_of_getElem? hy)
    dsimp only [kstB] at F1
    k_steps
    · exact cb_retB hret (ellLoop_stop hJ hy (by assumption)) (by k_asm) (by first | k_asm | (refine' cb_drop ?cbN ?cbS; (case cbN => assumption); (case cbS => first | kcj_all | kst_in)))
    · (rename Fr _ _ _ _ => FE); (rename News _ _ _ _ => NE)
      refine' each_end (_, _) FE NE ?hn ?hk ⟨?a, ?b⟩
      case hk => kst_all
      case hn => exact fun _ h => h
      case b => exact ellLoop_step hJ hy (by assumption)
      case a => (dsimp only); omega
  · clear F1 N1
    rintro ⟨pos, tp⟩ u h tk ⟨hpos, hJ⟩ F1 N1
    dsimp only [kstB] at F1
    have hL := hS.length
    k_steps
    exact cb_retB hret (ellLoop_done hJ hL) (by k_asm) (by first | k_asm | (refine' cb_drop ?cbN ?cbS; (case cbN => assumption); (case cbS => first | kcj_all | kst_in))))
end Mine
end
section
open PySem PySem.Builtin PySem.Builtin.Str PySem.StrLaws PyProof.Rows
namespace Mine
def dl : List Nat := [46, 46, 46]
theorem tl_dots : tl dots = dl := by decide +kernel
theorem len_dots : dots.length = 3 := by decide +kernel
theorem tl_append' (x y : Str) : tl (x ++ y) = tl x ++ tl y := by
  show (x ++ y).cps.toList = _
  rw [Str.cps_append, Array.toList_append]
def jl : List (List Nat) → List Nat
  | [] => []
  | [p] => p
  | p :: q :: r => p ++ dl ++ jl (q :: r)
theorem tl_join : ∀ parts : List Str, tl (Str.join dots parts) = jl (parts.map tl)
  | [] => rfl
  | [p] => rfl
  | p :: q :: r => by
    show tl (p ++ dots ++ Str.join dots (q :: r)) = _
    rw [tl_append', tl_append', tl_dots, tl_join (q :: r)]
    rfl
theorem at_iff (x : Str) (hi i : Nat) : At x dots hi i ↔ i + 3 ≤ hi ∧ ((tl x).drop i).take 3 = dl := by
  unfold At
  rw [subAt_eq, len_dots]
  show _ ∧ (((tl x).drop i).take 3 == tl dots) = true ↔ _
  rw [tl_dots, beq_iff_eq]
theorem at_char {x : Str} {hi i : Nat} (h : At x dots hi i) : (tl x)[i]? = some 46 := by
  have h2 := ((at_iff x hi i).mp h).2
  have h3 : (((tl x).drop i).take 3)[0]? = some 46 := by rw [h2]; rfl
  rw [List.getElem?_take_of_lt (by decide), List.getElem?_drop] at h3
  exact h3
theorem sub_tl (x : Str) (a b : Nat) : tl (strSub x a b) = ((tl x).drop a).take (b - a) := strSub_toList x a b
theorem parts_join (x : Str) : ∀ (parts : List Str) (a : Nat) (cuts : List Nat) (f : Nat), parts ≠ [] → (∀ p ∈ parts, 46 ∉ tl p) → a ≤ x.length → (tl x).drop a = jl (parts.map tl) → ChainG x dots x.length a cuts f → (∀ k, f ≤ k → ¬ At x dots x.length k) →
    partsFrom x 3 a cuts = parts
  | [], _, _, _, h, _, _, _, _, _ => absurd rfl h
  | [p], a, cuts, f, _, hp, ha, hd, hG, hn => by
    have hd' : (tl x).drop a = tl p := hd
    cases cuts with
    | nil =>
      show [strSub x a x.length] = [p]
      congr 1
      apply tl_inj
      rw [sub_tl, List.take_of_length_le (by rw [List.length_drop, tl_len]; exact Nat.le_refl _), hd']
    | cons c r =>
      exfalso
      obtain ⟨h1, h2, _⟩ := hG
      have h3 := at_char h2
      have h4 : ((tl x).drop a)[c - a]? = some 46 := by
        rw [List.getElem?_drop, show a + (c - a) = c by omega]; exact h3
      rw [hd'] at h4
      exact hp p (.head _) (List.mem_of_getElem? h4)
  | p :: q :: r, a, cuts, f, _, hp, ha, hd, hG, hn => by
    have hd' : (tl x).drop a = tl p ++ dl ++ jl ((q :: r).map tl) := hd
    have hlen : x.length = a + p.length + 3 + (jl ((q :: r).map tl)).length := by
      have := congrArg List.length hd'
      rw [List.length_drop, List.length_append, List.length_append, tl_len, tl_len] at this
      simp only [dl, List.length_cons, List.length_nil] at this
      omega
    have e1 : (tl x).drop (a + p.length) = dl ++ jl ((q :: r).map tl) := by
      rw [← List.drop_drop, hd', List.append_assoc, ← tl_len p, List.drop_left]
    have hA : At x dots x.length (a + p.length) := by
      rw [at_iff]
      refine ⟨by omega, ?_⟩
      rw [e1]; rfl
    have e2 : (tl x).drop (a + p.length + 3) = jl ((q :: r).map tl) := by
      rw [← List.drop_drop, e1]; rfl
    cases cuts with
    | nil =>
      have hf : f = a := hG
      subst hf
      exact absurd hA (hn _ (by omega))
    | cons c rest =>
      obtain ⟨h1, h2, h3, h4⟩ := hG
      have hc : c = a + p.length := by
        rcases Nat.lt_trichotomy c (a + p.length) with h | h | h
        · exfalso
          have h5 := at_char h2
          have h6 : ((tl x).drop a)[c - a]? = some 46 := by
            rw [List.getElem?_drop, show a + (c - a) = c by omega]; exact h5
          rw [hd', List.append_assoc, List.getElem?_append_left (by rw [tl_len]; omega)] at h6
          exact hp p (.head _) (List.mem_of_getElem? h6)
        · exact h
        · exact absurd hA (h3 _ (by omega) h)
      subst hc
      rw [len_dots] at h4
      have ih := parts_join x (q :: r) (a + p.length + 3) rest f (by simp) (fun y hy => hp y (.tail _ hy)) (by omega) e2 h4 hn
      show strSub x a (a + p.length) :: partsFrom x 3 (a + p.length + 3) rest = _
      rw [ih]
      congr 1
      apply tl_inj
      rw [sub_tl, hd', show a + p.length - a = (tl p).length by rw [tl_len]; omega, List.append_assoc, List.take_left]
theorem kind_ge (x : Str) : 1 ≤ PySem.Builtin.Str.strKind x := by
  unfold PySem.Builtin.Str.strKind
  repeat' split
  all_goals omega
theorem join_len {p q : Str} {r : List Str} : 3 ≤ (Str.join dots (p :: q :: r)).length := by
  rw [← tl_len, tl_join]
  simp only [List.map_cons, jl, List.length_append, dl, List.length_cons, List.length_nil]
  omega
theorem split_join (p q : Str) (r : List Str) (h : ∀ y ∈ p :: q :: r, 46 ∉ tl y) : Txt.split (Str.join dots (p :: q :: r)) dots = p :: q :: r := by
  have hl : 3 ≤ (Str.join dots (p :: q :: r)).length := join_len
  have hx := tl_join (p :: q :: r)
  generalize Str.join dots (p :: q :: r) = x at *
  obtain ⟨f, hG, hn⟩ := occ_tight x dots (by rw [len_dots]; decide)
  have key := parts_join x (p :: q :: r) 0 (occurrences x dots 0 x.length (x.length + 1)) f (by simp) h (Nat.zero_le _) hx hG hn
  unfold Txt.split
  have hk := kind_ge x
  have hk2 : PySem.Builtin.Str.strKind dots = 1 := by decide +kernel
  have hc : ¬ ((decide (x.length < dots.length) || decide (PySem.Builtin.Str.strKind x < PySem.Builtin.Str.strKind dots)) = true) := by
    rw [len_dots, hk2]
    simp
    omega
  rw [if_neg hc]
  split
  · rename_i he
    rw [List.isEmpty_iff.mp he] at key
    have := congrArg List.length key
    simp [partsFrom] at this
  · rw [partsBetween_eq, len_dots]
    exact key
theorem occ_some (p q : Str) (r : List Str) : (occurrences (Str.join dots (p :: q :: r)) dots 0 (Str.join dots (p :: q :: r)).length 1).isEmpty = false := by
  have h := (found_iff (Str.join dots (p :: q :: r)) dots).mpr ⟨p.length, ?_⟩
  · simpa using h
  · have hx := tl_join (p :: q :: r)
    have hA : At (Str.join dots (p :: q :: r)) dots (Str.join dots (p :: q :: r)).length p.length := by
      rw [at_iff]
      have e : (tl (Str.join dots (p :: q :: r))).drop p.length = dl ++ jl ((q :: r).map tl) := by
        rw [hx]
        show (tl p ++ dl ++ jl ((q :: r).map tl)).drop p.length = _
        rw [List.append_assoc, ← tl_len p, List.drop_left]
      refine ⟨?_, by rw [e]; rfl⟩
      have hlen : (Str.join dots (p :: q :: r)).length = (tl (Str.join dots (p :: q :: r))).length := (tl_len _).symm
      have hp := tl_len p
      rw [hlen, hx]
      simp only [List.map_cons, jl, List.length_append, dl, List.length_cons, List.length_nil]
      omega
    exact hA
end Mine
end
section
open PySem PySem.Builtin PySem.Builtin.Str PySem.StrLaws PyProof.Rows
namespace Mine
theorem occ_from (x y : Str) (lo hi : Nat) :
    (occurrences x y lo hi 1 = [] ∧ ∀ i, lo ≤ i → ¬ At x y hi i) ∨ ∃ i r, occurrences x y lo hi 1 = i :: r ∧ lo ≤ i ∧ At x y hi i ∧ ∀ k, lo ≤ k → k < i → ¬ At x y hi k := by
  rw [occ_eq]
  rcases occ_first x y hi 1 (Nat.le_refl 1) (List.range' lo (hi + 1 - lo)) lo (fun i h => (List.mem_range'_1.mp h).1) with ⟨h0, hn⟩ | ⟨pre, a, post, e, h0, ha, hn⟩
  · exact .inl ⟨by rw [h0], fun i hlo hi' => hn i (by rw [List.mem_range'_1]; exact ⟨hlo, by have := hi'.1; omega⟩) hi'⟩
  · have hs := range'_split_from e
    generalize (forIn (List.range' lo (hi + 1 - lo)) ((#[] : Array Nat), lo) (occBody x y hi 1)).run.fst = arr at h0
    have h1 : arr.toList[0]? = some a := by simpa using h0
    cases hL : arr.toList with
    | nil => rw [hL] at h1; cases h1
    | cons b t =>
      rw [hL] at h1
      have hb : b = a := by simpa using h1
      exact .inr ⟨b, t, rfl, hb ▸ hs.1, hb ▸ ha, fun k hk0 hk => hn k (hs.2 k hk0 (hb ▸ hk))⟩
theorem fnd_spec (x y : Str) (i j : Nat) :
    (fnd x y i j = -1 ∧ ∀ k, i ≤ k → ¬ At x y (min j x.length) k) ∨ ∃ k : Nat, fnd x y i j = (k : Int) ∧ i ≤ k ∧ At x y (min j x.length) k ∧ ∀ l, i ≤ l → l < k → ¬ At x y (min j x.length) l := by
  unfold fnd
  rcases occ_from x y i (min j x.length) with ⟨h0, hn⟩ | ⟨k, r, h0, h1, h2, h3⟩
  · rw [h0]; exact .inl ⟨rfl, hn⟩
  · rw [h0]; exact .inr ⟨k, rfl, h1, h2, h3⟩
theorem at_empty {x y : Str} {hi i : Nat} (hy : y.length = 0) : At x y hi i ↔ i ≤ hi := by
  have e : tl y = [] := List.eq_nil_of_length_eq_zero (by rw [tl_len]; exact hy)
  unfold At
  rw [subAt_eq, hy]
  show _ ∧ (((tl x).drop i).take 0 == tl y) = true ↔ _
  rw [e]; simp
theorem fnd_empty {x y : Str} {i j : Nat} (hy : y.length = 0) (h : i ≤ j) (hj : j ≤ x.length) : fnd x y i j = (i : Int) := by
  rcases fnd_spec x y i j with ⟨_, hn⟩ | ⟨k, h0, h1, _, h3⟩
  · exact absurd ((at_empty hy).mpr (by omega)) (hn i (Nat.le_refl _))
  · rw [h0]
    by_cases hk : i < k
    · exact absurd ((at_empty hy).mpr (by omega)) (h3 i (Nat.le_refl _) hk)
    · omega
theorem loop_empties {x : Str} {e : Nat} (he : e ≤ x.length) : ∀ (ws : List Str) (s : Nat), (∀ w ∈ ws, w.length = 0) → s ≤ e → ellLoop x e ws (s : Int) = true
  | [], _, _, _ => rfl
  | w :: ws, s, hw, hs => by
    have h0 := hw w (.head _)
    have hf : fnd x w (s : Int).toNat e = (s : Int) := by rw [Int.toNat_natCast]; exact fnd_empty h0 hs he
    rw [ellLoop, hf, if_neg (by omega), h0]
    have e1 : (s : Int) + ((0 : Nat) : Int) = (s : Int) := by omega
    rw [e1]
    exact loop_empties he ws s (fun y hy => hw y (.tail _ hy)) hs
theorem headE_empty {p y : Str} (h : y ∈ headE p) : y.length = 0 := by
  unfold headE at h
  split at h
  · rename_i hp
    rw [List.mem_singleton.mp h]; exact hp
  · exact nomatch h
theorem sw_iff {x y : Str} : Txt.startswith x y = decide ((tl x).take y.length = tl y) := by
  unfold Txt.startswith
  rw [subAt_eq]
  show (decide (0 + y.length ≤ x.length) && (((tl x).drop 0).take y.length == tl y)) = _
  rw [List.drop_zero, Bool.eq_iff_iff, Bool.and_eq_true, decide_eq_true_eq, decide_eq_true_eq, beq_iff_eq]
  constructor
  · exact fun h => h.2
  · intro h
    have := congrArg List.length h
    rw [List.length_take, tl_len, tl_len] at this
    exact ⟨by omega, h⟩
theorem ew_iff {x y : Str} : Txt.endswith x y = decide (y.length ≤ x.length ∧ (tl x).drop (x.length - y.length) = tl y) := by
  unfold Txt.endswith
  rw [subAt_eq]
  show (decide (0 + y.length ≤ x.length) && (((tl x).drop (x.length - y.length)).take y.length == tl y)) = _
  rw [Bool.eq_iff_iff, Bool.and_eq_true, decide_eq_true_eq, decide_eq_true_eq, beq_iff_eq, Nat.zero_add]
  constructor
  · rintro ⟨h1, h2⟩
    refine ⟨h1, ?_⟩
    rw [← h2]
    exact (List.take_of_length_le (by rw [List.length_drop, tl_len]; omega)).symm
  · rintro ⟨h1, h2⟩
    refine ⟨h1, ?_⟩
    rw [h2]
    exact List.take_of_length_le (by rw [tl_len]; exact Nat.le_refl _)
theorem ellF_cut {y p z : Str} {i j : Nat} (hij : i ≤ j) (hj : j ≤ y.length) (hp : tl p = (tl y).take i) (hz : tl z = (tl y).drop j) : ellF y p z [] = true := by
  have lp : p.length = i := by rw [← tl_len, hp, List.length_take, tl_len]; omega
  have lz : z.length = y.length - j := by rw [← tl_len, hz, List.length_drop, tl_len]
  have h1 : Txt.startswith y p = true := by rw [sw_iff, lp, hp]; simp
  have h2 : Txt.endswith y z = true := by
    rw [ew_iff, lz, hz, show y.length - (y.length - j) = j by omega]
    simp
  rw [ellF_loop (by rw [h1]; simp) (by rw [h2]; simp) (by omega)]
  have e : ((y.length : Int) - z.length).toNat = j := by omega
  rw [e, lp]
  refine loop_empties hj _ _ ?_ hij
  intro w hw
  rcases List.mem_append.mp hw with h | h
  · rcases List.mem_append.mp h with h | h
    · exact headE_empty h
    · exact nomatch h
  · exact headE_empty h
def dueF (x v : List Nat) (i : Nat) : Bool := decide (v.take i = x.take i) && decide (v.drop (v.length - (x.length - i)) = x.drop i) && decide (x.length ≤ v.length)
theorem ellF_due {v x p z : Str} {i : Nat} (h1 : 1 ≤ i) (h2 : i < x.length) (hp : tl p = (tl x).take i) (hz : tl z = (tl x).drop i) : ellF v p z [] = dueF (tl x) (tl v) i := by
  have lp : p.length = i := by rw [← tl_len, hp, List.length_take, tl_len]; omega
  have lz : z.length = x.length - i := by rw [← tl_len, hz, List.length_drop, tl_len]
  have sw : Txt.startswith v p = decide ((tl v).take i = (tl x).take i) := by rw [sw_iff, lp, hp]
  have ew : Txt.endswith v z = decide (x.length - i ≤ v.length ∧ (tl v).drop (v.length - (x.length - i)) = (tl x).drop i) := by rw [ew_iff, lz, hz]
  have hE : headE p ++ [] ++ headE z = [] := by
    unfold headE
    rw [if_neg (by omega), if_neg (by omega)]; rfl
  unfold ellF dueF
  rw [hE, sw, ew, tl_len, tl_len, lp, lz]
  by_cases a : (tl v).take i = (tl x).take i
  · by_cases b : (tl v).drop (v.length - (x.length - i)) = (tl x).drop i
    · have b' : x.length - i ≤ v.length := by
        have := congrArg List.length b
        rw [List.length_drop, List.length_drop, tl_len, tl_len] at this
        omega
      by_cases c : x.length ≤ v.length
      · have hn : ¬ ((v.length : Int) - ((x.length - i : Nat) : Int) < (i : Int)) := by omega
        simp [a, b, b', c, hn, ellLoop]
      · have hn : ((v.length : Int) - ((x.length - i : Nat) : Int) < (i : Int)) := by omega
        simp [a, b, b', c, hn]
    · have hz0 : ¬ (x.length - i = 0) := by omega
      simp [a, b, hz0]
  · have hi0 : ¬ i = 0 := by omega
    simp [a, hi0]
theorem at_one {x : Str} {c i : Nat} : At x ⟨#[c]⟩ x.length i ↔ (tl x)[i]? = some c := subAt_one x c i
theorem sub_skip {c : Nat} {l : List Nat} : ∀ (y : List Nat) (a b : Nat), a ≤ b → (∀ k, a ≤ k → k < b → y[k]? ≠ some c) → (c :: l).isSublist (y.drop a) = (c :: l).isSublist (y.drop b) := by
  intro y a b hab h
  induction b with
  | zero => rw [show a = 0 by omega]
  | succ b ih =>
    by_cases e : a = b + 1
    · rw [e]
    · rw [ih (by omega) (fun k h1 h2 => h k h1 (by omega))]
      by_cases hb : b < y.length
      · rw [List.drop_eq_getElem_cons hb, List.isSublist]
        have hne : ¬ c = y[b] := by
          intro e2
          exact h b (by omega) (by omega) (by rw [List.getElem?_eq_getElem hb, e2])
        rw [if_neg (by simpa using hne)]
      · rw [List.drop_eq_nil_of_le (by omega), List.drop_eq_nil_of_le (by omega)]
theorem loop_sub {y : Str} : ∀ (l : List Nat) (pos : Nat), pos ≤ y.length → ellLoop y y.length (l.map (fun c => (⟨#[c]⟩ : Str)) ++ [Str.ofString ""]) (pos : Int) = l.isSublist ((tl y).drop pos)
  | [], pos, h => by
    rw [List.map_nil, List.nil_append, loop_empties (Nat.le_refl _) _ pos (fun w hw => by rw [List.mem_singleton.mp hw]; decide) h, List.isSublist]
  | c :: l, pos, h => by
    rw [List.map_cons, List.cons_append, ellLoop, Int.toNat_natCast]
    have hm : min y.length y.length = y.length := Nat.min_self _
    rcases fnd_spec y ⟨#[c]⟩ pos y.length with ⟨h0, hn⟩ | ⟨k, h0, h1, h2, h3⟩
    · rw [h0, if_pos (by decide)]
      rw [hm] at hn
      rw [sub_skip (tl y) pos y.length h (fun k h1 _ he => hn k h1 (at_one.mpr he)), List.drop_eq_nil_of_le (by rw [tl_len]; exact Nat.le_refl _)]
      rfl
    · rw [h0, if_neg (by omega)]
      rw [hm] at h2 h3
      have hk := at_one.mp h2
      have hlt : k < (tl y).length := (List.getElem?_eq_some_iff.mp hk).1
      rw [tl_len] at hlt
      have e : (k : Int) + ((⟨#[c]⟩ : Str).length : Int) = ((k + 1 : Nat) : Int) := by
        have : (⟨#[c]⟩ : Str).length = 1 := rfl
        omega
      rw [e, loop_sub l (k + 1) (by omega), sub_skip (tl y) pos k h1 (fun j h4 h5 he => h3 j h4 h5 (at_one.mpr he)), drop_of_get hk, List.isSublist]
      simp
abbrev midOf (x : Str) : List Str := if x.length = 0 then [Str.ofString ""] else signs x
theorem ellF_sub {x y : Str} : ellF y (Str.ofString "") (Str.ofString "") (midOf x) = (tl x).isSublist (tl y) := by
  have h0 : (Str.ofString "").length = 0 := by decide
  have hE : headE (Str.ofString "") = [Str.ofString ""] := by unfold headE; rw [if_pos h0]
  rw [ellF_loop (by rw [h0]; simp) (by rw [h0]; simp) (by rw [h0]; omega), hE, h0]
  have e : ((y.length : Int) - ((0 : Nat) : Int)).toNat = y.length := by omega
  rw [e]
  have e0 : ((0 : Nat) : Int) = ((0 : Nat) : Int) := rfl
  by_cases hx : x.length = 0
  · have ex : tl x = [] := List.eq_nil_of_length_eq_zero (by rw [tl_len]; exact hx)
    rw [midOf, if_pos hx, ex, loop_empties (Nat.le_refl _) _ 0 (fun w hw => by
      simp only [List.cons_append, List.nil_append, List.mem_cons, List.not_mem_nil, or_false, or_self] at hw
      rw [hw]; exact h0) (Nat.zero_le _)]
    simp [List.isSublist]
  · rw [midOf, if_neg hx]
    show ellLoop y y.length (Str.ofString "" :: ((tl x).map (fun c => (⟨#[c]⟩ : Str)) ++ [Str.ofString ""])) ((0 : Nat) : Int) = _
    rw [ellLoop, Int.toNat_natCast, fnd_empty h0 (Nat.zero_le _) (Nat.le_refl _), if_neg (by omega), h0]
    exact loop_sub (tl x) 0 (Nat.zero_le _)
theorem ltr_dot {c : Nat} (h : Ltr c) : 46 ≠ c := by rcases h with h | h | h <;> omega
theorem no_dot {x : Str} (h : ∀ c ∈ tl x, Ltr c) : 46 ∉ tl x := fun hm => ltr_dot (h 46 hm) rfl
theorem two_join (p z : Str) : p ++ dots ++ z = Str.join dots [p, z] := rfl
theorem join_snoc (z : Str) : ∀ (p : Str) (r : List Str), tl (Str.join dots (p :: r ++ [z])) = tl (Str.join dots (p :: r)) ++ dl ++ tl z
  | p, [] => by
    show tl (p ++ dots ++ z) = tl p ++ dl ++ tl z
    rw [tl_append', tl_append', tl_dots]
  | p, q :: r => by
    have ih := join_snoc z q r
    show tl (p ++ dots ++ Str.join dots (q :: r ++ [z])) = tl (p ++ dots ++ Str.join dots (q :: r)) ++ dl ++ tl z
    rw [tl_append', tl_append', ih, tl_append', tl_append']
    simp only [List.append_assoc]
theorem dotted_join (x : Str) : dots ++ Txt.join dots (signs x) ++ dots = Str.join dots (Str.ofString "" :: (midOf x ++ [Str.ofString ""])) := by
  have h0 : tl (Str.ofString "") = [] := by decide
  apply tl_inj
  unfold Txt.join
  rw [glued_eq_join, tl_append', tl_append']
  by_cases hx : x.length = 0
  · have ex : tl x = [] := List.eq_nil_of_length_eq_zero (by rw [tl_len]; exact hx)
    have es : signs x = [] := by
      show (tl x).map (fun n => (⟨#[n]⟩ : Str)) = []
      rw [ex]; rfl
    rw [midOf, if_pos hx, es]
    decide +kernel
  · rw [midOf, if_neg hx]
    cases hs : signs x with
    | nil =>
      exfalso
      have : (tl x).map (fun n => (⟨#[n]⟩ : Str)) = [] := hs
      have := congrArg List.length this
      rw [List.length_map, tl_len] at this
      exact hx this
    | cons p r =>
      show _ = tl (Str.ofString "" ++ dots ++ Str.join dots (p :: r ++ [Str.ofString ""]))
      rw [tl_append', tl_append', join_snoc, h0, tl_dots]
      simp
end Mine
end
section
open PySem PySem.W PyProof.Rows
namespace Mine
local macro_rules | `(tactic| walk_at "pyIter str") => `(tactic| (refine Hold.out ?_))
local macro_rules | `(tactic| walk_at "exec For Name Name cons nil") => `(tactic| (k_here; (rename Fr _ _ _ _ => lF'); (with_unfolding_all refine' For_invVF lF' ?k1 ?k2 ?_; (case k1 => exact rfl); (case k2 => exact rfl))))
local macro_rules | `(tactic| walk_at "EachPost") => `(tactic| (dsimp only [EachPost]))
theorem sub_start {x y : List Nat} : x.isSublist y = (x.drop 0).isSublist (y.drop 0) := rfl
theorem sub_hit {r : Bool} {x y : Str} {p i q : Nat} {k : Int} (hk : k = (p : Int)) (h : r = ((tl x).drop p).isSublist ((tl y).drop i)) (hq : (tl y)[i]? = some q) (hp : k < x.length) (he : (Txt.item x k == (⟨#[q]⟩ : Str)) = true) : r = ((tl x).drop (p + 1)).isSublist ((tl y).drop (i + 1)) := by
  subst hk
  rw [item_eq x p (by omega) hp, beq_tl] at he
  have he := of_decide_eq_true he
  simp only [tl, List.cons.injEq, and_true] at he
  have hlt : p < (tl x).length := by rw [tl_len]; omega
  rw [h, drop_of_get hq, List.drop_eq_getElem_cons hlt, List.isSublist]
  have e : (tl x)[p] = q := by
    rw [← he, List.getD_eq_getElem?_getD]
    simp only [Int.toNat_natCast]
    rw [List.getElem?_eq_getElem hlt]; rfl
  rw [e]; simp
theorem sub_miss {r : Bool} {x y : Str} {p i q : Nat} {k : Int} (hk : k = (p : Int)) (h : r = ((tl x).drop p).isSublist ((tl y).drop i)) (hq : (tl y)[i]? = some q) (hp : k < x.length) (he : (Txt.item x k == (⟨#[q]⟩ : Str)) = false) : r = ((tl x).drop p).isSublist ((tl y).drop (i + 1)) := by
  subst hk
  rw [item_eq x p (by omega) hp, beq_tl] at he
  have he := of_decide_eq_false he
  simp only [tl, List.cons.injEq, and_true] at he
  have hlt : p < (tl x).length := by rw [tl_len]; omega
  have e : ¬ (tl x)[p] = q := by
    intro e
    apply he
    rw [← e, List.getD_eq_getElem?_getD]
    simp only [Int.toNat_natCast]
    rw [List.getElem?_eq_getElem hlt]; rfl
  rw [h, drop_of_get hq]
  conv => lhs; rw [List.drop_eq_getElem_cons hlt, List.isSublist]
  rw [if_neg (by simpa using e), ← List.drop_eq_getElem_cons hlt]
theorem sub_over {r : Bool} {x y : Str} {p i : Nat} (h : r = ((tl x).drop p).isSublist ((tl y).drop i)) (hp : ¬ (p : Int) < x.length) : r = ((tl x).drop p).isSublist ((tl y).drop (i + 1)) := by
  have e : (tl x).drop p = [] := List.drop_eq_nil_of_le (by rw [tl_len]; omega)
  rw [h, e]; simp [List.isSublist]
theorem sub_done {x y : Str} {p : Nat} {k : Int} (hk : k = (p : Int)) (hp : p ≤ x.length) (h : (tl x).isSublist (tl y) = ((tl x).drop p).isSublist ((tl y).drop y.length)) : (k == (x.length : Int)) = (tl x).isSublist (tl y) := by
  subst hk
  rw [h, List.drop_eq_nil_of_le (by rw [tl_len]; exact Nat.le_refl _ : (tl y).length ≤ y.length)]
  by_cases e : p = x.length
  · rw [List.drop_eq_nil_of_le (by rw [tl_len]; omega : (tl x).length ≤ p)]
    subst e
    simp [List.isSublist]
  · have hlt : p < (tl x).length := by rw [tl_len]; omega
    rw [List.drop_eq_getElem_cons hlt]
    simp only [List.isSublist]
    have : ¬ ((p : Int) = x.length) := by omega
    simp [this]
theorem left_C (w : World) (mean : ExcName → Option Value) (mg mb : Str → Option Value) (x y : Str) (tx ty : Tok) (hx : x.length ≤ 20) (hy : y.length ≤ 20) :
    Claim 1 w mean mg mb 49 [Value.str x tx, .str y ty] (fun t => .bool ((tl x).isSublist (tl y))) := by
  unfold Claim
  k_with_none
  k_fill
  w_strict (
  intro dp un gd cn cs fa ccd cl outer A₀ base h₀ L m news s Q E hB hF hX hN hT hcs hdp hun hret
  refine wpAny_call ?_
  k_dflt cell_enter
  have kMark : KstMark := kstMark
  k_steps
  refine Hold.mk ?_
  rename Fr _ _ _ _ => F1
  rename News _ _ _ _ => N1
  refine' each_str (ps := fun c : Nat × Int × Tok => [(Str.ofString "one", Value.str x tx), (Str.ofString "place", .int c.2.1 c.2.2)]) (J := fun i c => c.2.1 = (c.1 : Int) ∧ c.1 ≤ x.length ∧ (tl x).isSublist (tl y) = ((tl x).drop c.1).isSublist ((tl y).drop i)) (0, 0, _) (by rfl) F1 N1 ?hk ⟨rfl, by omega, sub_start⟩ ?_ ?_
  case hk => kst_all
  · clear F1 N1
    rintro i q t ⟨p, k, tp⟩ u h tk own hq ⟨hpk, hp, hJ⟩ F1 N1
    dsimp only at hpk hp hJ
    dsimp only [kstB] at F1
    k_steps
    · (rename Fr _ _ _ _ => FE); (rename News _ _ _ _ => NE)
      refine' each_end (p + 1, _, _) FE NE ?hn ?hk ⟨?a, ?b, ?c⟩
      case hk => kst_all
      case hn => exact fun _ h => h
      case a => (dsimp only); omega
      case b => (dsimp only); omega
      case c => exact sub_hit hpk hJ hq (by assumption) (by assumption)
    · (rename Fr _ _ _ _ => FE); (rename News _ _ _ _ => NE)
      refine' each_end (p, _, _) FE NE ?hn ?hk ⟨?a, ?b, ?c⟩
      case hk => kst_all
      case hn => exact fun _ h => h
      case a => (dsimp only); omega
      case b => (dsimp only); omega
      case c => exact sub_miss hpk hJ hq (by assumption) (by assumption)
    · (rename Fr _ _ _ _ => FE); (rename News _ _ _ _ => NE)
      refine' each_end (p, _, _) FE NE ?hn ?hk ⟨?a, ?b, ?c⟩
      case hk => kst_all
      case hn => exact fun _ h => h
      case a => (dsimp only); omega
      case b => (dsimp only); omega
      case c => exact sub_over hJ (by omega)
  · clear F1 N1
    rintro ⟨p, k, tp⟩ u h tk ⟨hpk, hp, hJ⟩ F1 N1
    dsimp only at hpk hp hJ
    dsimp only [kstB] at F1
    k_steps
    exact cb_retB hret (sub_done hpk hp hJ) (by k_asm) (by k_asm))
end Mine
end
section
open PySem PySem.W PyProof.Rows
namespace Mine
local macro_rules | `(tactic| walk_at "mine apart") => `(tactic| skip)
local macro_rules | `(tactic| walk_at "pyIter ref") => `(tactic| (refine Hold.out ?_))
local macro_rules | `(tactic| walk_at "exec For Name Call cons nil") => `(tactic| (k_here; (rename Fr _ _ _ _ => lF'); (with_unfolding_all refine' For_invVF lF' ?k1 ?k2 ?_; (case k1 => exact rfl); (case k2 => exact rfl))))
local macro_rules | `(tactic| walk_at "EachPost") => `(tactic| (dsimp only [EachPost]))
abbrev Words (x y : Str) : Prop := x.length ≤ 7 ∧ y.length ≤ 13 ∧ (∀ c ∈ tl x, Ltr c) ∧ (∀ c ∈ tl y, Ltr c)
theorem no_mem_empty {q : Nat} : ¬ q ∈ tl (Str.ofString "") := by
  rw [show tl (Str.ofString "") = [] from by decide]
  simp
theorem len_empty : (Str.ofString "").length = 0 := by decide
theorem fmod_cases (n : Int) : n.fmod 3 = 0 ∨ n.fmod 3 = 1 ∨ n.fmod 3 = 2 := by
  rw [Int.fmod_eq_emod_of_nonneg n (by decide)]
  omega
theorem fmod_nat (i : Nat) : ((0 : Int) + i).fmod 3 = ((i % 3 : Nat) : Int) := by
  rw [Int.fmod_eq_emod_of_nonneg _ (by decide)]
  omega
theorem abA_ltr (n : Int) : ∀ q ∈ tl (Txt.item (Str.ofString "abA") (n.fmod 3)), Ltr q := by
  intro q hq
  rcases fmod_cases n with h | h | h <;> rw [h] at hq
  · rw [show tl (Txt.item (Str.ofString "abA") 0) = [97] from by decide +kernel] at hq
    exact .inl (List.mem_singleton.mp hq)
  · rw [show tl (Txt.item (Str.ofString "abA") 1) = [98] from by decide +kernel] at hq
    exact .inr (.inl (List.mem_singleton.mp hq))
  · rw [show tl (Txt.item (Str.ofString "abA") 2) = [65] from by decide +kernel] at hq
    exact .inr (.inr (List.mem_singleton.mp hq))
theorem tl_append (x y : Str) : tl (x ++ y) = tl x ++ tl y := by
  show (x ++ y).cps.toList = _
  rw [Str.cps_append, Array.toList_append]
theorem ltr_append {x y : Str} (hx : ∀ q ∈ tl x, Ltr q) (hy : ∀ q ∈ tl y, Ltr q) : ∀ q ∈ tl (x ++ y), Ltr q := by
  intro q hq
  rw [tl_append] at hq
  rcases List.mem_append.mp hq with h | h
  · exact hx q h
  · exact hy q h
theorem len_append (x y : Str) : (x ++ y).length = x.length + y.length := by
  rw [← tl_len, tl_append, List.length_append, tl_len, tl_len]
theorem words_C (w : World) (mean : ExcName → Option Value) (mg mb : Str → Option Value) (l : Addr) (vs : List Value) (ns : List Int) (hI : IntsAre vs ns) (hns : ns.length ≤ 63)
    (dp un : Nat) (gd : Option (List Code)) (cn : Str) (cs : Scope) (fa : Addr) (ccd : Value) (cl : List (Str × Addr)) (outer : List Env) (A₀ : Around) (base h₀ : Heap) (L : Addr) (m : Str → Option Value) (news : List (Addr × Obj)) (s : Shared) (Q E : Value → Shared → Prop)
    (hl : base.IsList l vs.toArray)
    (hB : Below A₀ base outer h₀) (hF : Fr h₀ L s.heap m) (hX : (hd.heap_39 w.params).In h₀) (hN : News h₀ L s.heap news) (hT : Top hd.view_39 (looseW hd.view_39 []) mean mg mb h₀) (hcs : cs.kind = .function)
    (hdp : dp + 1 < recursionLimit) (hun : un + 8 * 1 < cLine)
    (hret : ∀ (x y : Str) (t u : Tok) (ad : Addr) (h' : Heap) (tk' : Nat), Words x y → Fr h₀ L h' m → News h₀ L h' ((ad, ({ cls := .type "tuple", data := .seq #[Value.str x t, Value.str y u] } : Obj)) :: news) → Q (.ref ad) { s with heap := h', toks := tk' }) :
    wpAny (model PySem.Challenge.rw_zr0003_01.row.prog w) (ktrTop dp un gd cn cs L fa ccd cl outer) (call (.ref 42) [.ref l]) Q E s := by
  k_with_none
  revert hX; k_fill; intro hX
  w_strict (
  refine wpAny_call ?_
  k_dflt cell_enter
  have kMark : KstMark := kstMark
  k_steps
  refine Hold.mk ?_
  rename Fr _ _ _ _ => F1
  rename News _ _ _ _ => N1
  rename IsRange _ _ _ _ _ _ _ _ => R1
  refine' each_range (ps := fun c : Str × Tok × Str × Tok => [(Str.ofString "script", Value.ref l), (Str.ofString "one", Value.str c.1 c.2.1), (Str.ofString "other", Value.str c.2.2.1 c.2.2.2)])
    (J := fun i c => c.1.length = (i + 2) / 3 ∧ c.2.2.1.length = i - (i + 2) / 3 ∧ (∀ q ∈ tl c.1, Ltr q) ∧ (∀ q ∈ tl c.2.2.1, Ltr q)) (Str.ofString "", _, Str.ofString "", _) (by rfl) R1 (by split <;> omega) rfl F1 N1 ?hk ?hj ?_ ?_
  case hk => kst_all
  case hj => exact ⟨len_empty, len_empty, fun q hq => absurd hq no_mem_empty, fun q hq => absurd hq no_mem_empty⟩
  · clear F1 N1
    rintro i t ⟨x, t1, y, t2⟩ u h tk own hi ⟨hx, hy, lx, ly⟩ F1 N1
    dsimp only at hx hy lx ly
    have hi20 : i < 20 := by split at hi <;> omega
    have hin : i < ns.length := by split at hi <;> omega
    dsimp only [kstB] at F1
    have hf := fmod_nat i
    k_steps
    · (rename Fr _ _ _ _ => FE); (rename News _ _ _ _ => NE)
      rw [hf] at *
      refine' each_end (_, _, _, _) FE NE ?hn ?hk ⟨?ea, ?eb, ?ec, ?ed⟩
      case hk => kst_all
      case hn => exact fun _ h => h
      case ea => (dsimp only; rw [len_append]); omega
      case eb => (dsimp only); omega
      case ec => exact ltr_append lx (abA_ltr _)
      case ed => exact ly
    · (rename Fr _ _ _ _ => FE); (rename News _ _ _ _ => NE)
      rw [hf] at *
      refine' each_end (_, _, _, _) FE NE ?hn ?hk ⟨?ea, ?eb, ?ec, ?ed⟩
      case hk => kst_all
      case hn => exact fun _ h => h
      case ea => (dsimp only); omega
      case eb => (dsimp only; rw [len_append]); (have h3 : i % 3 = 1 ∨ i % 3 = 2 := by omega); rcases h3 with h3 | h3 <;> omega
      case ec => exact lx
      case ed => exact ltr_append ly (abA_ltr _)
  · clear F1 N1
    rintro ⟨x, t1, y, t2⟩ u h tk ⟨hx, hy, lx, ly⟩ F1 N1
    dsimp only at hx hy lx ly
    dsimp only [kstB] at F1
    have hxy : x.length ≤ 7 ∧ y.length ≤ 13 := by
      by_cases h20 : 20 < (ns.length : Int)
      · rw [if_pos h20] at hx hy; omega
      · rw [if_neg h20] at hx hy; omega
    k_steps
    refine hret x y t1 t2 _ _ _ ⟨hxy.1, hxy.2, lx, ly⟩ (by k_asm) ?_
    rename News h₀ _ _ _ => NN
    exact cb_drop NN (by kst_in))
end Mine
end
section
open PySem PySem.W PyProof.Rows
namespace Mine
theorem signs_len (x : Str) : (signs x).length = x.length := by
  show ((tl x).map (fun n => (⟨#[n]⟩ : Str))).length = _
  rw [List.length_map, tl_len]
theorem join_len_le (x : Str) : (Txt.join (Str.ofString "...") (signs x)).length ≤ 4 * x.length := by
  have h := (fact_join_signs (Str.ofString "...") (fun _ => true) x).2.1
  have e : List.filter (fun _ => true) (signs x) = signs x := List.filter_eq_self.mpr fun _ _ => rfl
  have h3 : (Str.ofString "...").length = 3 := len_dots
  rw [e, signs_len, h3] at h
  omega
theorem mid_mem {x w : Str} (lx : ∀ c ∈ tl x, Ltr c) (h : w ∈ midOf x) : w.length ≤ 1 ∧ 46 ∉ tl w := by
  unfold midOf at h
  split at h
  · rw [List.mem_singleton.mp h]
    exact ⟨by decide, by decide⟩
  · have h' : w ∈ (tl x).map (fun n => (⟨#[n]⟩ : Str)) := h
    obtain ⟨c, hc, rfl⟩ := List.mem_map.mp h'
    refine ⟨Nat.le_refl _, ?_⟩
    intro hm
    have : 46 = c := List.mem_singleton.mp hm
    exact ltr_dot (lx c hc) this
theorem mid_len (x : Str) : (midOf x).length ≤ x.length + 1 := by
  unfold midOf
  split
  · simp
  · rw [signs_len]; omega
theorem ellA_C (w : World) (mean : ExcName → Option Value) (mg mb : Str → Option Value) (x y : Str) (tx ty : Tok) (hx : x.length ≤ 7) (hy : y.length ≤ 13) (lx : ∀ c ∈ tl x, Ltr c) :
    Claim 1 w mean mg mb 35 [Value.str (Str.ofString "..." ++ Txt.join (Str.ofString "...") (signs x) ++ Str.ofString "...") tx, .str y ty] (fun _ => .bool ((tl x).isSublist (tl y))) := by
  have hl : (Str.ofString "..." ++ Txt.join (Str.ofString "...") (signs x) ++ Str.ofString "...").length ≤ 100 := by
    rw [len_append, len_append]
    have := join_len_le x
    have h3 : (Str.ofString "...").length = 3 := len_dots
    omega
  have e := dotted_join x
  rw [show (Str.ofString "..." ++ Txt.join (Str.ofString "...") (signs x) ++ Str.ofString "...") = Str.join dots (Str.ofString "" :: (midOf x ++ [Str.ofString ""])) from e] at hl ⊢
  have hml := mid_len x
  have hsp : Txt.split (Str.join dots (Str.ofString "" :: (midOf x ++ [Str.ofString ""]))) dots = Str.ofString "" :: (midOf x ++ [Str.ofString ""]) ∧
      (Builtin.Str.occurrences (Str.join dots (Str.ofString "" :: (midOf x ++ [Str.ofString ""]))) dots 0 (Str.join dots (Str.ofString "" :: (midOf x ++ [Str.ofString ""]))).length 1).isEmpty = false := by
    have hd : ∀ w ∈ Str.ofString "" :: (midOf x ++ [Str.ofString ""]), 46 ∉ tl w := by
      intro w hw
      have h0 : 46 ∉ tl (Str.ofString "") := by decide
      rcases List.mem_cons.mp hw with rfl | hw
      · exact h0
      · rcases List.mem_append.mp hw with h | h
        · exact (mid_mem lx h).2
        · rw [List.mem_singleton.mp h]; exact h0
    generalize hM : midOf x ++ [Str.ofString ""] = M at *
    cases M with
    | nil => simp at hM
    | cons q r => exact ⟨split_join _ _ _ hd, occ_some _ _ _⟩
  have h := ell_C w mean mg mb _ y (Str.ofString "") (Str.ofString "") (midOf x) tx ty hl (by omega) (by omega) (by decide) (by decide) (fun v hv => by have := (mid_mem lx hv).1; omega) hsp.2 hsp.1
  rw [ellF_sub] at h
  exact h
theorem pz_C (w : World) (mean : ExcName → Option Value) (mg mb : Str → Option Value) (p z y : Str) (tx ty : Tok) (hp : p.length ≤ 20) (hz : z.length ≤ 20) (hy : y.length ≤ 20) (lp : ∀ c ∈ tl p, Ltr c) (lz : ∀ c ∈ tl z, Ltr c) :
    Claim 1 w mean mg mb 35 [Value.str (p ++ Str.ofString "..." ++ z) tx, .str y ty] (fun _ => .bool (ellF y p z [])) := by
  have hl : (p ++ Str.ofString "..." ++ z).length ≤ 100 := by
    rw [len_append, len_append]
    have h3 : (Str.ofString "...").length = 3 := len_dots
    omega
  have hd : ∀ w ∈ [p, z], 46 ∉ tl w := by
    intro w hw
    rcases List.mem_cons.mp hw with rfl | hw
    · exact no_dot lp
    · rw [List.mem_singleton.mp hw]; exact no_dot lz
  exact ell_C w mean mg mb _ y p z [] tx ty hl (by omega) (by decide) (by omega) (by omega) (fun v hv => nomatch hv) (occ_some p z []) (split_join p z [] hd)
theorem take_len (y : Str) (i : Int) (h : 0 ≤ i) : (Txt.slice y none (some i)).length ≤ y.length := by
  rw [← tl_len, sl_to y h, List.length_take, tl_len]; omega
theorem drop_len (y : Str) (i : Int) (h : 0 ≤ i) : (Txt.slice y (some i) none).length ≤ y.length := by
  rw [← tl_len, sl_from y h, List.length_drop, tl_len]; omega
theorem take_ltr {y : Str} {i : Int} (h : 0 ≤ i) (ly : ∀ c ∈ tl y, Ltr c) : ∀ c ∈ tl (Txt.slice y none (some i)), Ltr c := by
  rw [sl_to y h]
  exact fun c hc => ly c (List.mem_of_mem_take hc)
theorem drop_ltr {y : Str} {i : Int} (h : 0 ≤ i) (ly : ∀ c ∈ tl y, Ltr c) : ∀ c ∈ tl (Txt.slice y (some i) none), Ltr c := by
  rw [sl_from y h]
  exact fun c hc => ly c (List.mem_of_mem_drop hc)
theorem ellB_C (w : World) (mean : ExcName → Option Value) (mg mb : Str → Option Value) (y : Str) (i j : Int) (tx ty : Tok) (hy : y.length ≤ 13) (ly : ∀ c ∈ tl y, Ltr c) (h0 : 0 ≤ i) (hij : i ≤ j) (hj : j ≤ y.length) :
    Claim 1 w mean mg mb 35 [Value.str (Txt.slice y none (some i) ++ Str.ofString "..." ++ Txt.slice y (some j) none) tx, .str y ty] (fun _ => .bool true) := by
  have a := take_len y i h0
  have b := drop_len y j (by omega)
  have h := pz_C w mean mg mb (Txt.slice y none (some i)) (Txt.slice y (some j) none) y tx ty (by omega) (by omega) (by omega) (take_ltr h0 ly) (drop_ltr (by omega) ly)
  rw [ellF_cut (i := i.toNat) (j := j.toNat) (by omega) (by omega) (sl_to y h0) (sl_from y (by omega))] at h
  exact h
theorem ellC_C (w : World) (mean : ExcName → Option Value) (mg mb : Str → Option Value) (x v : Str) (i : Int) (tx ty : Tok) (hx : x.length ≤ 7) (hv : v.length ≤ 20) (lx : ∀ c ∈ tl x, Ltr c) (h0 : 1 ≤ i) (hi : i < x.length) :
    Claim 1 w mean mg mb 35 [Value.str (Txt.slice x none (some i) ++ Str.ofString "..." ++ Txt.slice x (some i) none) tx, .str v ty] (fun _ => .bool (dueF (tl x) (tl v) i.toNat)) := by
  have a := take_len x i (by omega)
  have b := drop_len x i (by omega)
  have h := pz_C w mean mg mb (Txt.slice x none (some i)) (Txt.slice x (some i) none) v tx ty (by omega) (by omega) (by omega) (take_ltr (by omega) lx) (drop_ltr (by omega) lx)
  rw [ellF_due (i := i.toNat) (by omega) (by omega) (sl_to x (by omega)) (sl_from x (by omega))] at h
  exact h
theorem levB_C (w : World) (mean : ExcName → Option Value) (mg mb : Str → Option Value) (y : Str) (i j : Int) (tx ty tz : Tok) (hy : y.length ≤ 13) (ly : ∀ c ∈ tl y, Ltr c) (h0 : 0 ≤ i) (hij : i ≤ j) (hj : j ≤ y.length) :
    Claim 2 w mean mg mb 28 [Value.str (Txt.slice y none (some i) ++ Txt.slice y (some j) none) tx, .str y ty, .int 1000 tz] (fun t => .int (2 * (j - i)) t) := by
  have a : (Txt.slice y none (some i)).length = i.toNat := by rw [← tl_len, sl_to y h0, List.length_take, tl_len]; omega
  have b : (Txt.slice y (some j) none).length = y.length - j.toNat := by rw [← tl_len, sl_from y (by omega), List.length_drop, tl_len]
  have h := lev_C w mean mg mb (Txt.slice y none (some i) ++ Txt.slice y (some j) none) y tx ty tz (by rw [len_append]; omega) (by omega) (ltr_append (take_ltr h0 ly) (drop_ltr (by omega) ly)) ly
  have e : levF (tl (Txt.slice y none (some i) ++ Txt.slice y (some j) none)) (tl y) = 2 * (j - i) := by
    rw [tl_append, sl_to y h0, sl_from y (by omega), levF_cut (tl y) i.toNat j.toNat (by omega) (by rw [tl_len]; omega)]
    omega
  rw [e] at h
  exact h
section
variable {prog : Program} {w : World} {A : Around} {E : Value → Shared → Prop} {s : Shared}
theorem join_rule {D : Addr} {ys : List Value} {x : Str} {t : Tok} {Q : Value → Shared → Prop} (hl : s.heap.IsList D ys.toArray) (hc : CarriedAll ys (List.map PyData.str (List.filter (fun _ => true) (signs x)))) (hx : x.length ≤ 20)
    (h : ∀ t' k, (Txt.join (Str.ofString "...") (signs x)).length ≤ 80 → Q (.str (Txt.join (Str.ofString "...") (signs x)) t') { s with toks := k }) :
    wpAny (model prog w) A (call (.builtin "str.join") [.str (Str.ofString "...") t, .ref D]) Q E s := by
  have e : List.filter (fun _ => true) (signs x) = signs x := List.filter_eq_self.mpr fun _ _ => rfl
  rw [e] at hc
  refine join_list (ys := signs x) hl (StrsAre.of_carried hc) ?_ fun t' k => h t' k (by have := join_len_le x; omega)
  have h1 := sumLen_of_ones (signs x) (sign_length_one x)
  have h3 : (Str.ofString "...").length = 3 := len_dots
  rw [h1, signs_len, h3]
  omega
end
theorem no1 {x y : Str} (h : ((levF (tl x) (tl y) == 2 * ((y.length : Int) - x.length)) != (tl x).isSublist (tl y)) = true) : False := by
  have e := levF_sub (tl x) (tl y)
  rw [tl_len, tl_len] at e
  have e2 : (levF (tl x) (tl y) == 2 * ((y.length : Int) - x.length)) = decide (levF (tl x) (tl y) = 2 * ((y.length : Int) - x.length)) := by
    by_cases hh : levF (tl x) (tl y) = 2 * ((y.length : Int) - x.length) <;> simp [hh]
  rw [e2, e] at h
  simp at h
theorem no2 {x y : Str} (h : levF (tl y) (tl x) ≠ levF (tl x) (tl y)) : False := h (levF_symm _ _)
theorem no3 {x y : Str} (h : levF (tl x) (tl y) < 2 * if (y.length : Int) - x.length < 0 then -((y.length : Int) - x.length) else (y.length : Int) - x.length) : False := by
  have l := levF_law (tl x) (tl y)
  rw [tl_len, tl_len] at l
  have l1 := l.1
  have l2 := l.2.1
  split at h <;> omega
theorem words4 {x y : Str} {i : Nat} {v : Value} {k j : Int} {t1 t2 t3 t4 : Tok} (hx : x.length ≤ 7) (hy : y.length ≤ 13) (hk : 0 ≤ k) (hj : 0 ≤ j) (h : [Value.str y t1, .str x t2, .str (Txt.slice x none (some k) ++ Txt.slice x (some j) none) t3, .str (Txt.slice x none (some k)) t4][i]? = some v) :
    ∃ wd t, v = .str wd t ∧ wd.length ≤ 20 := by
  have a := take_len x k hk
  have b := drop_len x j hj
  have hm := List.mem_of_getElem? h
  simp only [List.mem_cons, List.not_mem_nil, or_false] at hm
  rcases hm with rfl | rfl | rfl | rfl
  · exact ⟨_, _, rfl, by omega⟩
  · exact ⟨_, _, rfl, by omega⟩
  · exact ⟨_, _, rfl, by rw [len_append]; omega⟩
  · exact ⟨_, _, rfl, by omega⟩
theorem cut_beq {x v : Str} {k : Int} (h : 0 ≤ k) : (Txt.slice v none (some k) == Txt.slice x none (some k)) = decide ((tl v).take k.toNat = (tl x).take k.toNat) := by
  rw [beq_tl, sl_to v h, sl_to x h]
theorem end_beq {x v : Str} {k : Int} (h : 0 ≤ k) (hk : k < x.length) (hx : x.length ≤ v.length) :
    (Txt.slice v (some ((v.length : Int) - x.length + k)) none == Txt.slice x (some k) none) = decide ((tl v).drop ((tl v).length - ((tl x).length - k.toNat)) = (tl x).drop k.toNat) := by
  rw [beq_tl, sl_from v (by omega), sl_from x h, tl_len, tl_len, show ((v.length : Int) - x.length + k).toNat = v.length - (x.length - k.toNat) by omega]
theorem due1 {x v : Str} {k : Int} (h0 : 0 ≤ k) (hk : k < x.length) (h1 : (Txt.slice v none (some k) == Txt.slice x none (some k)) = true)
    (h2 : (Txt.slice v (some ((v.length : Int) - x.length + k)) none == Txt.slice x (some k) none) = true) (h : (dueF (tl x) (tl v) k.toNat != decide ((x.length : Int) ≤ v.length)) = true) : False := by
  rw [cut_beq h0] at h1
  by_cases c : x.length ≤ v.length
  · rw [end_beq h0 hk c] at h2
    have c2 : (x.length : Int) ≤ v.length := by omega
    unfold dueF at h
    rw [h1, h2, tl_len, tl_len] at h
    simp [c] at h
  · have c2 : ¬ (x.length : Int) ≤ v.length := by omega
    unfold dueF at h
    rw [tl_len, tl_len] at h
    simp [c] at h
theorem due2 {x v : Str} {k : Int} (h0 : 0 ≤ k) (hk : k < x.length)
    (h2 : (Txt.slice v (some ((v.length : Int) - x.length + k)) none == Txt.slice x (some k) none) = false) (h : (dueF (tl x) (tl v) k.toNat != (Txt.slice v (some ((v.length : Int) - x.length + k)) none == Txt.slice x (some k) none)) = true) : False := by
  rw [h2] at h
  by_cases c : x.length ≤ v.length
  · rw [end_beq h0 hk c] at h2
    unfold dueF at h
    rw [h2] at h
    simp at h
  · unfold dueF at h
    rw [tl_len, tl_len] at h
    simp [c] at h
theorem due3 {x v : Str} {k : Int} (h0 : 0 ≤ k) (h1 : (Txt.slice v none (some k) == Txt.slice x none (some k)) = false)
    (h : (dueF (tl x) (tl v) k.toNat != (Txt.slice v none (some k) == Txt.slice x none (some k))) = true) : False := by
  rw [h1] at h
  rw [cut_beq h0] at h1
  unfold dueF at h
  rw [h1] at h
  simp at h
end Mine
end
open PySem PySem.W PyProof.Rows Mine
local macro_rules | `(tactic| walk_at "call ref") => `(tactic| (refine Hold.out ?_))
local macro_rules | `(tactic| walk_at "call ref") => `(tactic| (k_here; (with_reducible show wpAny _ _ (call (Value.ref 28) [Value.str _ _, Value.str _ _, Value.int 1000 _]) _ _ _); k_dflt (refine' lev_C _ _ _ _ _ _ _ _ _ ?ha ?hb ?la ?lb _ _ _ _ _ _ _ _ _ _ _ _ _ _ _ _ _ _ ?k1 ?k2 ?k3 ?k4 ?k5 ?kK ?kd ?ku ?_; (case ha => omega); (case hb => omega); (case la => assumption); (case lb => assumption); (case k1 => k_asm); (case k2 => k_asm); (case k3 => k_asm); (case k4 => k_asm); (case k5 => k_asm); (case kK => first | exact rfl | assumption); (case kd => ktr_room); (case ku => ktr_units)); intro t9 h9 tk9 F9 N9; (try dsimp only)))
local macro_rules | `(tactic| walk_at "call ref") => `(tactic| (k_here; (with_reducible show wpAny _ _ (call (Value.ref 28) [Value.str (Txt.slice _ none (some _) ++ Txt.slice _ (some _) none) _, Value.str _ _, Value.int 1000 _]) _ _ _); k_dflt (refine' levB_C _ _ _ _ _ _ _ _ _ _ ?hy ?ly ?h0 ?hij ?hj _ _ _ _ _ _ _ _ _ _ _ _ _ _ _ _ _ _ ?k1 ?k2 ?k3 ?k4 ?k5 ?kK ?kd ?ku ?_; (case hy => omega); (case ly => assumption); (case h0 => omega); (case hij => omega); (case hj => omega); (case k1 => k_asm); (case k2 => k_asm); (case k3 => k_asm); (case k4 => k_asm); (case k5 => k_asm); (case kK => first | exact rfl | assumption); (case kd => ktr_room); (case ku => ktr_units)); intro t9 h9 tk9 F9 N9; (try dsimp only)))
local macro_rules | `(tactic| walk_at "call ref") => `(tactic| (k_here; (with_reducible show wpAny _ _ (call (Value.ref 49) [Value.str _ _, Value.str _ _]) _ _ _); k_dflt (refine' left_C _ _ _ _ _ _ _ _ ?ha ?hb _ _ _ _ _ _ _ _ _ _ _ _ _ _ _ _ _ _ ?k1 ?k2 ?k3 ?k4 ?k5 ?kK ?kd ?ku ?_; (case ha => omega); (case hb => omega); (case k1 => k_asm); (case k2 => k_asm); (case k3 => k_asm); (case k4 => k_asm); (case k5 => k_asm); (case kK => first | exact rfl | assumption); (case kd => ktr_room); (case ku => ktr_units)); intro t9 h9 tk9 F9 N9; (try dsimp only)))
local macro_rules | `(tactic| walk_at "call ref") => `(tactic| (k_here; (with_reducible show wpAny _ _ (call (Value.ref 35) [Value.str (Txt.slice _ none (some _) ++ _ ++ Txt.slice _ (some _) none) _, Value.str _ _]) _ _ _); k_dflt (refine' ellC_C _ _ _ _ _ _ _ _ _ ?hx ?hv ?lx ?h0 ?hi _ _ _ _ _ _ _ _ _ _ _ _ _ _ _ _ _ _ ?k1 ?k2 ?k3 ?k4 ?k5 ?kK ?kd ?ku ?_; (case hx => omega); (case hv => omega); (case lx => assumption); (case h0 => omega); (case hi => omega); (case k1 => k_asm); (case k2 => k_asm); (case k3 => k_asm); (case k4 => k_asm); (case k5 => k_asm); (case kK => first | exact rfl | assumption); (case kd => ktr_room); (case ku => ktr_units)); intro t9 h9 tk9 F9 N9; (try dsimp only)))
local macro_rules | `(tactic| walk_at "call ref") => `(tactic| (k_here; (with_reducible show wpAny _ _ (call (Value.ref 35) [Value.str (Txt.slice _ none (some _) ++ _ ++ Txt.slice _ (some _) none) _, Value.str _ _]) _ _ _); k_dflt (refine' ellB_C _ _ _ _ _ _ _ _ _ ?hy ?ly ?h0 ?hij ?hj _ _ _ _ _ _ _ _ _ _ _ _ _ _ _ _ _ _ ?k1 ?k2 ?k3 ?k4 ?k5 ?kK ?kd ?ku ?_; (case hy => omega); (case ly => assumption); (case h0 => omega); (case hij => omega); (case hj => omega); (case k1 => k_asm); (case k2 => k_asm); (case k3 => k_asm); (case k4 => k_asm); (case k5 => k_asm); (case kK => first | exact rfl | assumption); (case kd => ktr_room); (case ku => ktr_units)); intro t9 h9 tk9 F9 N9; (try dsimp only)))
local macro_rules | `(tactic| walk_at "call ref") => `(tactic| (k_here; (with_reducible show wpAny _ _ (call (Value.ref 35) [Value.str (_ ++ Txt.join _ _ ++ _) _, Value.str _ _]) _ _ _); k_dflt (refine' ellA_C _ _ _ _ _ _ _ _ ?hx ?hy ?lx _ _ _ _ _ _ _ _ _ _ _ _ _ _ _ _ _ _ ?k1 ?k2 ?k3 ?k4 ?k5 ?kK ?kd ?ku ?_; (case hx => omega); (case hy => omega); (case lx => assumption); (case k1 => k_asm); (case k2 => k_asm); (case k3 => k_asm); (case k4 => k_asm); (case k5 => k_asm); (case kK => first | exact rfl | assumption); (case kd => ktr_room); (case ku => ktr_units)); intro t9 h9 tk9 F9 N9; (try dsimp only)))
local macro_rules | `(tactic| walk_at "pyIter ref") => `(tactic| (refine Hold.out ?_))
local macro_rules | `(tactic| walk_at "exec For Name Call cons nil") => `(tactic| (k_here; (rename Fr _ _ _ _ => lF'); (with_unfolding_all refine' For_invVF lF' ?k1 ?k2 ?_; (case k1 => exact rfl); (case k2 => exact rfl))))
local macro_rules | `(tactic| walk_at "exec For Name List cons nil") => `(tactic| (k_here; (rename Fr _ _ _ _ => lF'); (with_unfolding_all refine' For_invVF lF' ?k1 ?k2 ?_; (case k1 => exact rfl); (case k2 => exact rfl))))
local macro_rules | `(tactic| walk_at "call builtin:str.join") => `(tactic| (k_here; (rename CarriedAll _ _ => hc'); k_dflt (refine' join_rule ?hl hc' ?hx ?_; (case hl => assumption); (case hx => omega)); intro t' k' hj'))
local macro_rules | `(tactic| walk_at "EachPost") => `(tactic| (dsimp only [EachPost]))
theorem PySem.Challenge.cw_zr0003_01_holds : PySem.Challenge.rw_zr0003_01.Holds := by
  refine Mine.hd ?_
  k_with_none
  w_strict (
  k_go0
  all_goals try k_fold
  have kMark : KstMark := kstMark
  k_steps
  refine Hold.mk ?_
  k_dflt (refine' words_C _ _ _ _ _ _ _ ?hI ?hns _ _ _ _ _ _ _ _ _ _ _ _ _ _ _ _ _ _ ?hl ?k1 ?k2 ?k3 ?k4 ?k5 ?kK ?kd ?ku ?_; (case hl => assumption); (case hI => assumption); (case hns => omega); (case k1 => k_asm); (case k2 => k_asm); (case k3 => k_asm); (case k4 => k_asm); (case k5 => k_asm); (case kK => first | exact rfl | assumption); (case kd => ktr_room); (case ku => ktr_units))
  intro x y t u ad h' tk' hW F' N'
  obtain ⟨hx, hy, lx, ly⟩ := hW
  k_steps
  · exfalso; exact no1 (by assumption)
  · exfalso; exact no2 (by assumption)
  · exfalso; exact no3 (by assumption)
  refine Hold.mk ?_
  rename Fr _ _ _ _ => F1
  rename News _ _ _ _ => N1
  rename IsRange _ _ _ _ _ _ _ _ => R1
  refine' each_range (ps := fun _ : Unit => [(Str.ofString "one", Value.str x t), (Str.ofString "other", Value.str y u)]) (J := fun _ _ => True) () (by rfl) R1 (by omega) rfl F1 N1 ?hk trivial ?_ ?_
  case hk => kst_all
  · clear F1 N1 R1
    rintro i ti ⟨⟩ uu h tk own hi _ F1 N1
    dsimp only [kstB] at F1
    k_steps
    refine Hold.mk ?_
    rename Fr _ _ _ _ => F1
    rename News _ _ _ _ => N1
    rename IsRange _ _ _ _ _ _ _ _ => R1
    refine' each_range (ps := fun _ : Unit => [(Str.ofString "one", Value.str x t), (Str.ofString "other", Value.str y u), (Str.ofString "low", Value.int (0 + (i : Int)) ti)]) (J := fun _ _ => True) () (by rfl) R1 (by omega) rfl F1 N1 ?hk2 trivial ?_ ?_
    case hk2 => kst_all
    · clear F1 N1 R1
      rintro j tj ⟨⟩ uu h tk own2 hj _ F1 N1
      dsimp only [kstB] at F1
      k_steps
      (rename Fr _ _ _ _ => FE); (rename News _ _ _ _ => NE)
      refine' each_end () FE NE ?hn ?hk3 trivial
      case hk3 => kst_all
      case hn => first | exact fun _ h => h | kst_in
    · clear F1 N1 R1
      rintro ⟨⟩ uu h tk _ F1 N1
      dsimp only [kstB] at F1
      k_steps
      (rename Fr _ _ _ _ => FE); (rename News _ _ _ _ => NE)
      refine' each_end () FE NE ?hn ?hk3 trivial
      case hk3 => kst_all
      case hn => first | exact fun _ h => h | kst_in
  · clear F1 N1 R1
    rintro ⟨⟩ uu h tk _ F1 N1
    dsimp only [kstB] at F1
    k_steps
    refine Hold.mk ?_
    rename Fr _ _ _ _ => F1
    rename News _ _ _ _ => N1
    rename IsRange _ _ _ _ _ _ _ _ => R1
    refine' each_range (ps := fun _ : Unit => [(Str.ofString "one", Value.str x t), (Str.ofString "other", Value.str y u)]) (J := fun _ _ => True) () (by rfl) R1 (by omega) rfl F1 N1 ?hk4 trivial ?_ ?_
    case hk4 => kst_all
    · clear F1 N1 R1
      rintro i ti ⟨⟩ uu h tk own hi _ F1 N1
      dsimp only [kstB] at F1
      k_steps
      refine Hold.mk ?_
      rename Fr _ _ _ _ => F1
      rename News _ _ _ _ => N1
      refine' each_list (ps := fun _ : Unit => [(Str.ofString "one", Value.str x t), (Str.ofString "low", Value.int (1 + (i : Int)) ti), (Str.ofString "other", Value.str y u)]) (J := fun _ _ => True) () (by rfl) F1 N1 (.head _) ?hk5 trivial ?_ ?_
      case hk5 => kst_all
      · clear F1 N1
        rintro j v ⟨⟩ uu h tk own2 hv _ F1 N1
        obtain ⟨wd, tw, rfl, hwd⟩ := words4 hx hy (by omega) (by omega) hv
        dsimp only [kstB] at F1
        k_steps
        · exfalso; exact due1 (x := x) (v := wd) (k := 1 + (i : Int)) (by omega) (by omega) (by assumption) (by assumption) (by assumption)
        · (rename Fr _ _ _ _ => FE); (rename News _ _ _ _ => NE)
          refine' each_end () FE NE ?hn ?hk6 trivial
          case hk6 => kst_all
          case hn => first | exact fun _ h => h | kst_in
        · exfalso; exact due2 (x := x) (v := wd) (k := 1 + (i : Int)) (by omega) (by omega) (by assumption) (by assumption)
        · (rename Fr _ _ _ _ => FE); (rename News _ _ _ _ => NE)
          refine' each_end () FE NE ?hn ?hk6 trivial
          case hk6 => kst_all
          case hn => first | exact fun _ h => h | kst_in
        · exfalso; exact due3 (x := x) (v := wd) (k := 1 + (i : Int)) (by omega) (by assumption) (by assumption)
        · (rename Fr _ _ _ _ => FE); (rename News _ _ _ _ => NE)
          refine' each_end () FE NE ?hn ?hk6 trivial
          case hk6 => kst_all
          case hn => first | exact fun _ h => h | kst_in
      · clear F1 N1
        rintro ⟨⟩ uu h tk _ F1 N1
        dsimp only [kstB] at F1
        k_steps
        (rename Fr _ _ _ _ => FE); (rename News _ _ _ _ => NE)
        refine' each_end () FE NE ?hn ?hk6 trivial
        case hk6 => kst_all
        case hn => first | exact fun _ h => h | kst_in
    · clear F1 N1 R1
      rintro ⟨⟩ uu h tk _ F1 N1
      dsimp only [kstB] at F1
      k_steps)
