import PyProof.Rows.All
import Wide.All
import OpenK.AllK
import Wide.FinOn
import Lean
import PySem.Challenge.RW_il0150_01
open PySem PySem.W PyProof.Rows
set_option Elab.async false
set_option maxRecDepth 100000
set_option linter.unusedVariables false
set_option linter.unusedSimpArgs false
namespace Mine
/-! The plain law of find_longest_match: what its two loops keep. No program in sight. -/

-- the signs at places i of a and j of b are there and the same
noncomputable def eqc (a b : List Nat) (i j : Nat) : Bool :=
  match a[i]?, b[j]? with
  | some c, some d => c == d
  | _, _ => false

-- a common stretch of k signs at i in a and at j in b
noncomputable def Mt (a b : List Nat) (i j k : Nat) : Prop := ∀ x, x < k → eqc a b (i + x) (j + x) = true

-- how many signs a and b have in common before the places i and j, not reaching below alo and blo
noncomputable def rn (a b : List Nat) (alo blo : Nat) : Nat → Nat → Nat
  | i + 1, j + 1 => if alo ≤ i ∧ blo ≤ j ∧ eqc a b i j = true then rn a b alo blo i j + 1 else 0
  | _, _ => 0

section
variable {a b : List Nat} {alo blo : Nat}

theorem Mt.zero {i j : Nat} : Mt a b i j 0 := fun _ h => absurd h (Nat.not_lt_zero _)

theorem Mt.snoc {i j k : Nat} (h : Mt a b i j k) (e : eqc a b (i + k) (j + k) = true) : Mt a b i j (k + 1) := fun x hx => by
  by_cases q : x = k
  · subst q; exact e
  · exact h x (by (first|lia|omega))

theorem Mt.less {i j k k' : Nat} (h : Mt a b i j k) (hk : k' ≤ k) : Mt a b i j k' := fun x hx => h x (by (first|lia|omega))

theorem rn_valid : ∀ (i j : Nat), alo ≤ i → blo ≤ j → alo + rn a b alo blo i j ≤ i ∧ blo + rn a b alo blo i j ≤ j ∧
    Mt a b (i - rn a b alo blo i j) (j - rn a b alo blo i j) (rn a b alo blo i j)
  | 0, j, hi, hj => by simp [rn, hi, hj, Mt.zero]
  | i + 1, 0, hi, hj => by simp [rn, hi, hj, Mt.zero]
  | i + 1, j + 1, hi, hj => by
    unfold rn
    split
    · rename_i h
      obtain ⟨h1, h2, h3⟩ := h
      obtain ⟨q1, q2, q3⟩ := rn_valid i j h1 h2
      refine ⟨by (first|lia|omega), by (first|lia|omega), ?_⟩
      have e1 : i + 1 - (rn a b alo blo i j + 1) = i - rn a b alo blo i j := by (first|lia|omega)
      have e2 : j + 1 - (rn a b alo blo i j + 1) = j - rn a b alo blo i j := by (first|lia|omega)
      rw [e1, e2]
      refine q3.snoc ?_
      have e3 : i - rn a b alo blo i j + rn a b alo blo i j = i := by (first|lia|omega)
      have e4 : j - rn a b alo blo i j + rn a b alo blo i j = j := by (first|lia|omega)
      rw [e3, e4]; exact h3
    · exact ⟨by (first|lia|omega), by (first|lia|omega), Mt.zero⟩

theorem rn_max : ∀ (k i j i' j' : Nat), i' + k = i → j' + k = j → alo ≤ i' → blo ≤ j' → Mt a b i' j' k → k ≤ rn a b alo blo i j
  | 0, _, _, _, _, _, _, _, _, _ => Nat.zero_le _
  | k + 1, i, j, i', j', hi, hj, ha, hb, hm => by
    obtain ⟨i₁, rfl⟩ : ∃ i₁, i = i₁ + 1 := ⟨i - 1, by (first|lia|omega)⟩
    obtain ⟨j₁, rfl⟩ : ∃ j₁, j = j₁ + 1 := ⟨j - 1, by (first|lia|omega)⟩
    have e1 : i' + k = i₁ := by (first|lia|omega)
    have e2 : j' + k = j₁ := by (first|lia|omega)
    have q := rn_max k i₁ j₁ i' j' e1 e2 ha hb (hm.less (Nat.le_succ k))
    have r := hm k (Nat.lt_succ_self k)
    rw [e1, e2] at r
    unfold rn
    rw [if_pos ⟨by (first|lia|omega), by (first|lia|omega), r⟩]
    (first|lia|omega)

theorem rn_low {i j : Nat} (h : i ≤ alo ∨ j ≤ blo) : rn a b alo blo i j = 0 := by
  cases i with
  | zero => simp [rn]
  | succ i => cases j with
    | zero => simp [rn]
    | succ j => unfold rn; rw [if_neg]; (first|lia|omega)

theorem rn_ne {i j : Nat} (h : eqc a b i j = false) : rn a b alo blo (i + 1) (j + 1) = 0 := by
  unfold rn; rw [if_neg]; rintro ⟨_, _, q⟩; rw [h] at q; cases q

theorem rn_eq {i j : Nat} (hi : alo ≤ i) (hj : blo ≤ j) (h : eqc a b i j = true) : rn a b alo blo (i + 1) (j + 1) = rn a b alo blo i j + 1 := by
  conv => lhs; unfold rn
  rw [if_pos ⟨hi, hj, h⟩]
end

-- the best stretch among those that end at row i or before, or at row i + 1 in a column of `pre`
structure Best (a b : List Nat) (alo blo bhi i : Nat) (pre : Nat → Prop) (bi bj bs : Nat) : Prop where
  lo : alo ≤ bi ∧ blo ≤ bj ∧ bj + bs ≤ bhi
  row : bi + bs ≤ i + 1
  m : Mt a b bi bj bs
  zero : bs = 0 → bi = alo ∧ bj = blo
  top : ∀ i' j' k', alo ≤ i' → blo ≤ j' → j' + k' ≤ bhi → Mt a b i' j' k' → 0 < k' → (i' + k' ≤ i ∨ (i' + k' = i + 1 ∧ pre (j' + k' - 1))) →
    k' ≤ bs ∧ (k' = bs → bi < i' ∨ (bi = i' ∧ bj ≤ j'))
  col : bi + bs = i + 1 → 0 < bs → pre (bj + bs - 1)

section
variable {a b : List Nat} {alo blo bhi : Nat}

theorem Best.start (h : blo ≤ bhi) : Best a b alo blo bhi alo (fun _ => False) alo blo 0 where
  lo := ⟨Nat.le_refl _, Nat.le_refl _, h⟩
  row := by (first|lia|omega)
  m := Mt.zero
  zero := fun _ => ⟨rfl, rfl⟩
  top := fun i' j' k' h1 _ _ _ h5 h6 => by
    rcases h6 with h6 | h6
    · (first|lia|omega)
    · exact h6.2.elim
  col := fun h1 h2 => by (first|lia|omega)

-- a column that is not looked at (it lies below blo, or another sign stands there)
theorem Best.skip {i : Nat} {pre pre' : Nat → Prop} {bi bj bs : Nat} (B : Best a b alo blo bhi i pre bi bj bs) (hs : ∀ j, pre j → pre' j)
    (h : ∀ j, pre' j → ¬ pre j → j < blo ∨ bhi ≤ j ∨ eqc a b i j = false) : Best a b alo blo bhi i pre' bi bj bs where
  lo := B.lo
  row := B.row
  m := B.m
  zero := B.zero
  top := fun i' j' k' h1 h2 h3 h4 h5 h6 => by
    rcases h6 with h6 | ⟨h6, h7⟩
    · exact B.top i' j' k' h1 h2 h3 h4 h5 (.inl h6)
    · by_cases q : pre (j' + k' - 1)
      · exact B.top i' j' k' h1 h2 h3 h4 h5 (.inr ⟨h6, q⟩)
      · rcases h _ h7 q with h8 | h8 | h8
        · (first|lia|omega)
        · (first|lia|omega)
        · have := h4 (k' - 1) (by (first|lia|omega))
          rw [show i' + (k' - 1) = i by (first|lia|omega), show j' + (k' - 1) = j' + k' - 1 by (first|lia|omega), h8] at this
          cases this
  col := fun h1 h2 => hs _ (B.col h1 h2)

-- a column is looked at: its stretch is longer than the best, or it is not
theorem Best.look {i j : Nat} {pre : Nat → Prop} {bi bj bs : Nat} (B : Best a b alo blo bhi i pre bi bj bs) (hi : alo ≤ i) (hj : blo ≤ j) (hj' : j < bhi) (asc : ∀ x, pre x → x < j)
    (r : Nat) (hr : r = rn a b alo blo (i + 1) (j + 1)) :
    (bs < r → Best a b alo blo bhi i (fun x => pre x ∨ x = j) (i + 1 - r) (j + 1 - r) r) ∧ (r ≤ bs → Best a b alo blo bhi i (fun x => pre x ∨ x = j) bi bj bs) := by
  obtain ⟨v1, v2, v3⟩ := rn_valid (a := a) (b := b) (alo := alo) (blo := blo) (i + 1) (j + 1) (by (first|lia|omega)) (by (first|lia|omega))
  rw [← hr] at v1 v2 v3
  have mx : ∀ i' j' k', alo ≤ i' → blo ≤ j' → Mt a b i' j' k' → i' + k' = i + 1 → j' + k' - 1 = j → 0 < k' → k' ≤ r := fun i' j' k' h1 h2 h3 h4 h5 h6 => by
    rw [hr]; exact rn_max k' (i + 1) (j + 1) i' j' h4 (by (first|lia|omega)) h1 h2 h3
  constructor
  · intro hlt
    refine ⟨⟨by (first|lia|omega), by (first|lia|omega), by (first|lia|omega)⟩, by (first|lia|omega), v3, fun h => by (first|lia|omega), ?_, fun _ _ => .inr (by (first|lia|omega))⟩
    intro i' j' k' h1 h2 h3 h4 h5 h6
    rcases h6 with h6 | ⟨h6, h7 | h7⟩
    · have := (B.top i' j' k' h1 h2 h3 h4 h5 (.inl h6)).1
      exact ⟨by (first|lia|omega), fun q => by (first|lia|omega)⟩
    · have := (B.top i' j' k' h1 h2 h3 h4 h5 (.inr ⟨h6, h7⟩)).1
      exact ⟨by (first|lia|omega), fun q => by (first|lia|omega)⟩
    · have := mx i' j' k' h1 h2 h4 h6 h7 h5
      exact ⟨this, fun q => .inr ⟨by (first|lia|omega), by (first|lia|omega)⟩⟩
  · intro hle
    refine ⟨B.lo, B.row, B.m, B.zero, ?_, fun h1 h2 => .inl (B.col h1 h2)⟩
    intro i' j' k' h1 h2 h3 h4 h5 h6
    rcases h6 with h6 | ⟨h6, h7 | h7⟩
    · exact B.top i' j' k' h1 h2 h3 h4 h5 (.inl h6)
    · exact B.top i' j' k' h1 h2 h3 h4 h5 (.inr ⟨h6, h7⟩)
    · have q := mx i' j' k' h1 h2 h4 h6 h7 h5
      refine ⟨by (first|lia|omega), fun e => ?_⟩
      by_cases hrow : bi + bs = i + 1
      · have := asc _ (B.col hrow (by (first|lia|omega)))
        right; (first|lia|omega)
      · left; have := B.row; (first|lia|omega)

-- the row is done
theorem Best.next {i : Nat} {pre : Nat → Prop} {bi bj bs : Nat} (B : Best a b alo blo bhi i pre bi bj bs) (all : ∀ j, blo ≤ j → j < bhi → eqc a b i j = true → pre j) :
    Best a b alo blo bhi (i + 1) (fun _ => False) bi bj bs where
  lo := B.lo
  row := by have := B.row; (first|lia|omega)
  m := B.m
  zero := B.zero
  top := fun i' j' k' h1 h2 h3 h4 h5 h6 => by
    rcases h6 with h6 | h6
    · by_cases q : i' + k' ≤ i
      · exact B.top i' j' k' h1 h2 h3 h4 h5 (.inl q)
      · refine B.top i' j' k' h1 h2 h3 h4 h5 (.inr ⟨by (first|lia|omega), all _ (by (first|lia|omega)) (by (first|lia|omega)) ?_⟩)
        have := h4 (k' - 1) (by (first|lia|omega))
        rwa [show i' + (k' - 1) = i by (first|lia|omega), show j' + (k' - 1) = j' + k' - 1 by (first|lia|omega)] at this
    · exact h6.2.elim
  col := fun h1 h2 => by have := B.row; (first|lia|omega)
end

-- the longest common stretch of a[alo:ahi] and b[blo:bhi], the earliest in a, then in b
structure LM (a b : List Nat) (alo ahi blo bhi i j k : Nat) : Prop where
  lo : alo ≤ i ∧ blo ≤ j
  hi : i + k ≤ ahi ∧ j + k ≤ bhi
  m : Mt a b i j k
  zero : k = 0 → i = alo ∧ j = blo
  top : ∀ i' j' k', alo ≤ i' → blo ≤ j' → i' + k' ≤ ahi → j' + k' ≤ bhi → Mt a b i' j' k' → 0 < k' → k' ≤ k ∧ (k' = k → i < i' ∨ (i = i' ∧ j ≤ j'))

section
variable {a b : List Nat} {alo ahi blo bhi : Nat}
theorem LM.of_best {bi bj bs : Nat} (h : alo ≤ ahi) (B : Best a b alo blo bhi ahi (fun _ => False) bi bj bs) : LM a b alo ahi blo bhi bi bj bs where
  lo := ⟨B.lo.1, B.lo.2.1⟩
  hi := by
    refine ⟨?_, B.lo.2.2⟩
    by_cases q : bi + bs = ahi + 1
    · by_cases z : bs = 0
      · have := B.zero z; (first|lia|omega)
      · exact (B.col q (by (first|lia|omega))).elim
    · have := B.row; (first|lia|omega)
  m := B.m
  zero := B.zero
  top := fun i' j' k' h1 h2 h3 h4 h5 h6 => B.top i' j' k' h1 h2 h4 h5 h6 (.inl h3)

theorem LM.unique {i j k i' j' k' : Nat} (x : LM a b alo ahi blo bhi i j k) (y : LM a b alo ahi blo bhi i' j' k') : i = i' ∧ j = j' ∧ k = k' := by
  by_cases hk : k = 0
  · by_cases hk' : k' = 0
    · have := x.zero hk; have := y.zero hk'; (first|lia|omega)
    · have := (x.top i' j' k' y.lo.1 y.lo.2 y.hi.1 y.hi.2 y.m (by (first|lia|omega))).1; (first|lia|omega)
  · have p := x.top i' j' k' y.lo.1 y.lo.2 y.hi.1 y.hi.2 y.m
    have q := y.top i j k x.lo.1 x.lo.2 x.hi.1 x.hi.2 x.m (by (first|lia|omega))
    by_cases hk' : k' = 0
    · (first|lia|omega)
    · have p := p (by (first|lia|omega))
      have e : k = k' := by (first|lia|omega)
      have p := p.2 e.symm
      have q := q.2 e
      (first|lia|omega)

-- no sign before the stretch is in common
theorem LM.before {i j k : Nat} (x : LM a b alo ahi blo bhi i j k) (hi : alo < i) (hj : blo < j) : eqc a b (i - 1) (j - 1) = false := by
  cases e : eqc a b (i - 1) (j - 1) with
  | false => rfl
  | true =>
    exfalso
    have hk : 0 < k := by
      rcases Nat.eq_zero_or_pos k with z | z
      · have := x.zero z; (first|lia|omega)
      · exact z
    have : Mt a b (i - 1) (j - 1) (k + 1) := fun y hy => by
      by_cases q : y = 0
      · subst q; exact e
      · have := x.m (y - 1) (by (first|lia|omega))
        rwa [show i + (y - 1) = i - 1 + y by (first|lia|omega), show j + (y - 1) = j - 1 + y by (first|lia|omega)] at this
    have := (x.top _ _ _ (by (first|lia|omega)) (by (first|lia|omega)) (by have := x.hi; (first|lia|omega)) (by have := x.hi; (first|lia|omega)) this (by (first|lia|omega))).1
    (first|lia|omega)
-- nor behind it
theorem LM.behind {i j k : Nat} (x : LM a b alo ahi blo bhi i j k) (hi : i + k < ahi) (hj : j + k < bhi) : eqc a b (i + k) (j + k) = false := by
  cases e : eqc a b (i + k) (j + k) with
  | false => rfl
  | true =>
    exfalso
    have := (x.top i j (k + 1) x.lo.1 x.lo.2 (by (first|lia|omega)) (by (first|lia|omega)) (x.m.snoc e) (by (first|lia|omega))).1
    (first|lia|omega)
end
/-! The plain law of a text and its short form: the longest common stretches that the matcher meets. No program in sight. -/

-- a longest common stretch that is the earliest in both
structure SM (a b : List Nat) (alo ahi blo bhi i j k : Nat) : Prop where
  lo : alo ≤ i ∧ blo ≤ j
  hi : i + k ≤ ahi ∧ j + k ≤ bhi
  m : Mt a b i j k
  zero : k = 0 → i = alo ∧ j = blo
  top : ∀ i' j' k', alo ≤ i' → blo ≤ j' → i' + k' ≤ ahi → j' + k' ≤ bhi → Mt a b i' j' k' → 0 < k' → k' ≤ k ∧ (k' = k → i ≤ i' ∧ j ≤ j')

theorem eqc_comm (a b : List Nat) (i j : Nat) : eqc a b i j = eqc b a j i := by
  unfold eqc
  cases a[i]? <;> cases b[j]? <;> simp [Bool.beq_comm]
theorem Mt.swap {a b : List Nat} {i j k : Nat} (h : Mt a b i j k) : Mt b a j i k := fun x hx => by rw [eqc_comm]; exact h x hx

theorem SM.fwd {a b : List Nat} {alo ahi blo bhi i j k : Nat} (h : SM a b alo ahi blo bhi i j k) : LM a b alo ahi blo bhi i j k where
  lo := h.lo
  hi := h.hi
  m := h.m
  zero := h.zero
  top := fun i' j' k' h1 h2 h3 h4 h5 h6 => by
    obtain ⟨q1, q2⟩ := h.top i' j' k' h1 h2 h3 h4 h5 h6
    exact ⟨q1, fun e => by have := q2 e; (first|lia|omega)⟩
theorem SM.bwd {a b : List Nat} {alo ahi blo bhi i j k : Nat} (h : SM a b alo ahi blo bhi i j k) : LM b a blo bhi alo ahi j i k where
  lo := ⟨h.lo.2, h.lo.1⟩
  hi := ⟨h.hi.2, h.hi.1⟩
  m := h.m.swap
  zero := fun z => ⟨(h.zero z).2, (h.zero z).1⟩
  top := fun j' i' k' h1 h2 h3 h4 h5 h6 => by
    obtain ⟨q1, q2⟩ := h.top i' j' k' h2 h1 h4 h3 h5.swap h6
    exact ⟨q1, fun e => by have := q2 e; (first|lia|omega)⟩

-- a text x of n signs, its short form: p signs, a mark, t signs
noncomputable def short (x mark : List Nat) (p t : Nat) : List Nat := x.take p ++ (mark ++ x.drop (x.length - t))

theorem short_length {x mark : List Nat} {p t : Nat} (h : p + t ≤ x.length) : (short x mark p t).length = p + mark.length + t := by
  simp [short]; (first|lia|omega)
theorem short_head {x mark : List Nat} {p t j : Nat} (hp : p ≤ x.length) (h : j < p) : (short x mark p t)[j]? = x[j]? := by
  unfold short
  rw [List.getElem?_append_left (by simp; (first|lia|omega)), List.getElem?_take, if_pos h]
theorem short_mark {x mark : List Nat} {p t j : Nat} (hp : p ≤ x.length) (h : p ≤ j) (h' : j < p + mark.length) : (short x mark p t)[j]? = mark[j - p]? := by
  unfold short
  rw [List.getElem?_append_right (by simp; (first|lia|omega)), List.getElem?_append_left (by simp; (first|lia|omega))]
  simp; congr 1; (first|lia|omega)
theorem short_tail {x mark : List Nat} {p t j : Nat} (hp : p + t ≤ x.length) (h : p + mark.length ≤ j) : (short x mark p t)[j]? = x[x.length - t + (j - (p + mark.length))]? := by
  unfold short
  rw [List.getElem?_append_right (by simp; (first|lia|omega)), List.getElem?_append_right (by simp; (first|lia|omega)), List.getElem?_drop]
  simp; congr 1; (first|lia|omega)

-- what the law knows of text, mark, sizes; place is where the end first stands
structure Lay (x mark : List Nat) (p t place : Nat) : Prop where
  room : p + t < x.length
  apart : ∀ c ∈ mark, c ∉ x
  some : 0 < mark.length
  place_le : place + t ≤ x.length
  place_lo : t ≤ p → p ≤ place
  here : Mt x x place (x.length - t) t
  first : 0 < t → ∀ k, k + t ≤ x.length → (t ≤ p → p ≤ k) → Mt x x k (x.length - t) t → place ≤ k
  none : t = 0 → place = x.length

section
variable {x mark : List Nat} {p t place : Nat}

theorem eqc_iff {a b : List Nat} {i j : Nat} : eqc a b i j = true ↔ ∃ c, a[i]? = some c ∧ b[j]? = some c := by
  unfold eqc
  cases h1 : a[i]? <;> cases h2 : b[j]? <;> simp
  exact eq_comm

theorem eqc_same {a : List Nat} {i : Nat} (h : i < a.length) : eqc a a i i = true := eqc_iff.mpr ⟨a[i], by simp [h], by simp [h]⟩

-- no sign of the mark is met
theorem Lay.off (L : Lay x mark p t place) {i j : Nat} (h : eqc x (short x mark p t) i j = true) : j < p ∨ p + mark.length ≤ j := by
  obtain ⟨c, h1, h2⟩ := eqc_iff.mp h
  by_cases q : j < p
  · exact .inl q
  · by_cases r : p + mark.length ≤ j
    · exact .inr r
    · exfalso
      rw [short_mark (by have := L.room; (first|lia|omega)) (by (first|lia|omega)) (by (first|lia|omega))] at h2
      exact L.apart c (List.mem_of_getElem? h2) (List.mem_of_getElem? h1)

-- a stretch lies in the beginning or in the end
theorem Lay.part (L : Lay x mark p t place) {i j k : Nat} (hk : 0 < k) (h : Mt x (short x mark p t) i j k) : j + k ≤ p ∨ p + mark.length ≤ j := by
  by_cases q : p + mark.length ≤ j
  · exact .inr q
  · left
    have h0 : j < p := by
      have := L.off (h 0 hk)
      have := L.some
      (first|lia|omega)
    have : ∀ y, y < k → j + y < p := by
      intro y
      induction y with
      | zero => intro _; exact h0
      | succ y ih =>
        intro hy
        have := ih (by (first|lia|omega))
        have := L.off (h (y + 1) hy)
        have := L.some
        (first|lia|omega)
    have := this (k - 1) (by (first|lia|omega))
    (first|lia|omega)

theorem eqc_len {a b : List Nat} {i j : Nat} (h : eqc a b i j = true) : i < a.length ∧ j < b.length := by
  obtain ⟨c, h1, h2⟩ := eqc_iff.mp h
  exact ⟨(List.getElem?_eq_some_iff.mp h1).1, (List.getElem?_eq_some_iff.mp h2).1⟩

theorem Lay.inHead (L : Lay x mark p t place) {k : Nat} (hk : k ≤ p) : Mt x (short x mark p t) 0 0 k := fun y hy => by
  have := L.room
  refine eqc_iff.mpr ⟨x[0 + y]'(by (first|lia|omega)), by simp, ?_⟩
  rw [short_head (by (first|lia|omega)) (by (first|lia|omega))]
  simp
theorem Lay.inTail (L : Lay x mark p t place) : Mt x (short x mark p t) place (p + mark.length) t := fun y hy => by
  obtain ⟨c, h1, h2⟩ := eqc_iff.mp (L.here y hy)
  refine eqc_iff.mpr ⟨c, h1, ?_⟩
  have := L.room
  rw [short_tail (by (first|lia|omega)) (by (first|lia|omega)), ← h2]
  congr 1; (first|lia|omega)
-- a stretch of the whole end is one that the end makes in the text
theorem Lay.tailOf (L : Lay x mark p t place) {i : Nat} (h : Mt x (short x mark p t) i (p + mark.length) t) : Mt x x i (x.length - t) t := fun y hy => by
  obtain ⟨c, h1, h2⟩ := eqc_iff.mp (h y hy)
  refine eqc_iff.mpr ⟨c, h1, ?_⟩
  have := L.room
  rw [short_tail (by (first|lia|omega)) (by (first|lia|omega))] at h2
  rw [← h2]
  congr 1; (first|lia|omega)

-- nothing kept: nothing in common
theorem Lay.first0 (L : Lay x mark p t place) (hp : p = 0) (ht : t = 0) : SM x (short x mark p t) 0 x.length 0 (p + mark.length + t) 0 0 0 where
  lo := ⟨Nat.le_refl _, Nat.le_refl _⟩
  hi := ⟨Nat.zero_le _, Nat.zero_le _⟩
  m := Mt.zero
  zero := fun _ => ⟨rfl, rfl⟩
  top := fun i' j' k' _ _ h3 h4 h5 h6 => by
    have := L.part h6 h5
    (first|lia|omega)
-- the beginning is not the shorter one: it is met first
theorem Lay.firstHead (L : Lay x mark p t place) (hp : 0 < p) (ht : t ≤ p) : SM x (short x mark p t) 0 x.length 0 (p + mark.length + t) 0 0 p where
  lo := ⟨Nat.le_refl _, Nat.le_refl _⟩
  hi := by have := L.room; (first|lia|omega)
  m := L.inHead (Nat.le_refl _)
  zero := fun _ => ⟨rfl, rfl⟩
  top := fun i' j' k' _ _ h3 h4 h5 h6 => by
    have := L.part h6 h5
    exact ⟨by (first|lia|omega), fun _ => by (first|lia|omega)⟩
-- the end is the longer one: it is met first
theorem Lay.firstTail (L : Lay x mark p t place) (ht : p < t) : SM x (short x mark p t) 0 x.length 0 (p + mark.length + t) place (p + mark.length) t where
  lo := by (first|lia|omega)
  hi := ⟨L.place_le, by (first|lia|omega)⟩
  m := L.inTail
  zero := fun _ => by (first|lia|omega)
  top := fun i' j' k' _ _ h3 h4 h5 h6 => by
    have q := L.part h6 h5
    refine ⟨by (first|lia|omega), fun e => ?_⟩
    subst e
    have e : j' = p + mark.length := by (first|lia|omega)
    subst e
    exact ⟨L.first (by (first|lia|omega)) i' h3 (by (first|lia|omega)) (L.tailOf h5), Nat.le_refl _⟩
-- behind the beginning: the end, if there is one
theorem Lay.nextTail (L : Lay x mark p t place) (ht : t ≤ p) (h0 : 0 < t) : SM x (short x mark p t) p x.length p (p + mark.length + t) place (p + mark.length) t where
  lo := ⟨L.place_lo ht, by (first|lia|omega)⟩
  hi := ⟨L.place_le, by (first|lia|omega)⟩
  m := L.inTail
  zero := fun _ => by (first|lia|omega)
  top := fun i' j' k' h1 h2 h3 h4 h5 h6 => by
    have q := L.part h6 h5
    refine ⟨by (first|lia|omega), fun e => ?_⟩
    subst e
    have e : j' = p + mark.length := by (first|lia|omega)
    subst e
    exact ⟨L.first h0 i' h3 (fun _ => h1) (L.tailOf h5), Nat.le_refl _⟩
theorem Lay.nextNone (L : Lay x mark p t place) (h0 : t = 0) : SM x (short x mark p t) p x.length p (p + mark.length + t) p p 0 where
  lo := ⟨Nat.le_refl _, Nat.le_refl _⟩
  hi := by have := L.room; (first|lia|omega)
  m := Mt.zero
  zero := fun _ => ⟨rfl, rfl⟩
  top := fun i' j' k' h1 h2 h3 h4 h5 h6 => by
    have := L.part h6 h5
    (first|lia|omega)
-- between the beginning and the end: nothing
theorem Lay.between (L : Lay x mark p t place) (hp : p ≤ place) : SM x (short x mark p t) p place p (p + mark.length) p p 0 where
  lo := ⟨Nat.le_refl _, Nat.le_refl _⟩
  hi := by (first|lia|omega)
  m := Mt.zero
  zero := fun _ => ⟨rfl, rfl⟩
  top := fun i' j' k' h1 h2 h3 h4 h5 h6 => by
    have := L.part h6 h5
    (first|lia|omega)
-- ahead of the end: the beginning, as far as it lies there
theorem Lay.ahead (L : Lay x mark p t place) : SM x (short x mark p t) 0 place 0 (p + mark.length) 0 0 (min p place) where
  lo := ⟨Nat.le_refl _, Nat.le_refl _⟩
  hi := by (first|lia|omega)
  m := L.inHead (Nat.min_le_left _ _)
  zero := fun _ => ⟨rfl, rfl⟩
  top := fun i' j' k' h1 h2 h3 h4 h5 h6 => by
    have := L.part h6 h5
    exact ⟨by (first|lia|omega), fun _ => by (first|lia|omega)⟩

-- a text left whole: the whole is met, both ways
theorem whole_sm (x : List Nat) : SM x x 0 x.length 0 x.length 0 0 x.length where
  lo := ⟨Nat.le_refl _, Nat.le_refl _⟩
  hi := by (first|lia|omega)
  m := fun y hy => by rw [Nat.zero_add]; exact eqc_same hy
  zero := fun _ => ⟨rfl, rfl⟩
  top := fun i' j' k' h1 h2 h3 h4 h5 h6 => ⟨by (first|lia|omega), fun _ => by (first|lia|omega)⟩
end
-- 1. the table with a linear look at the class's docstring

noncomputable def anyA {α : Type} (as : Array α) (p : α → Bool) (start : Nat := 0) (stop : Nat := as.size) : Bool :=
  Bool.rec (as.any p start stop) (PySem.W.R.anyR as.toList p) (Nat.beq start 0 && Nat.beq stop as.size)
theorem anyA_eq : @Array.any.{0} = @anyA := by
  funext α as p start stop
  unfold anyA
  cases h : (Nat.beq start 0 && Nat.beq stop as.size) with
  | false => rfl
  | true =>
    obtain ⟨h1, h2⟩ := Bool.and_eq_true_iff.mp h
    have h1 := Nat.eq_of_beq_eq_true h1
    have h2 := Nat.eq_of_beq_eq_true h2
    subst h1 h2
    show as.any p = PySem.W.R.anyR as.toList p
    rw [← PySem.W.R.anyR_eq]; simp
noncomputable def pick {f : Builtin} (_ : PLift (f = f) → PLift (f = f)) : Builtin := f
-- the twin of type.__new__ with the linear look
noncomputable def new2 : Builtin := by
  have e : PLift (PySem.W.Fast.tw4202317264376624991 = PySem.W.Fast.tw4202317264376624991) := ⟨rfl⟩
  delta PySem.W.Fast.tw4202317264376624991 at e
  rw [anyA_eq] at e
  exact @pick _ (fun (h : type_of% e) => h)
theorem new2_eq : PySem.W.Fast.tw4202317264376624991 = new2 := by
  delta PySem.W.Fast.tw4202317264376624991 new2 pick
  rw [anyA_eq]
noncomputable def table2 : String → Option Builtin := fun id => Bool.rec (PySem.W.Fast.tw14364793385576792824 id) (some new2) (PySem.W.S.eqLit 29827186395103491166823348853 id)
-- 2. the written part of the heap behind the top; bodies by their road in the program
noncomputable abbrev pw : Program := PySem.Challenge.pw_il0150_01
noncomputable def bodyOf : Stmt → List Stmt
  | .FunctionDef _ _ b .. => b
  | .ClassDef _ _ _ b .. => b
  | _ => []
noncomputable def parOf : Stmt → Arguments
  | .FunctionDef _ a .. => a
  | _ => { posonlyargs := [], args := [], vararg := none, kwonlyargs := [], kw_defaults := [], kwarg := none, defaults := [] }
noncomputable def scoOf : Stmt → Scope
  | .FunctionDef _ _ _ _ _ _ s .. => s
  | _ => default
noncomputable def st (i : Nat) : Stmt := (pw.main.body[i]?).getD (.Pass default)
noncomputable def me (i j : Nat) : Stmt := ((bodyOf (st i))[j]?).getD (.Pass default)
noncomputable def dok (s : Stmt) : Str := (docOf (bodyOf s)).getD ⟨#[]⟩
noncomputable abbrev S (x : String) : Str := Str.ofString x
noncomputable def keyOf : Value → Str
  | .str x _ => x
  | _ => ⟨#[]⟩
noncomputable def K (P : Params) (k v : Value) : DictEntry := ⟨PyData.keyHash P (keyOf k), k, v⟩
noncomputable def o2 (P : Params) : Obj := ⟨.none, none, (.dict [].toArray 0), #[]⟩
noncomputable def o3 (P : Params) : Obj := ⟨(.type "dict"), none, (.dict [K P (.str (S "__name__") 165) (.str (S "law_il0150_01") 597), K P (.str (S "__doc__") 166) .none, K P (.str (S "__package__") 167) .none, K P (.str (S "__loader__") 168) (.builtin "__main__.__loader__#opaque"), K P (.str (S "__spec__") 169) .none, K P (.str (S "__annotations__") 170) (.ref 6), K P (.str (S "__builtins__") 171) (.ref 4), K P (.str (S "__file__") 173) (.str (S "/claim/cut.py") 172), K P (.str (S "__cached__") 174) .none, K P (.str (S "_wall") 193) (.ref 21), K P (.str (S "_PLACEHOLDER_LEN") 197) (.int 12 196), K P (.str (S "_shorten") 207) (.ref 28), K P (.str (S "_tuplegetter") 266) (.ref 67), K P (.str (S "Match") 394) (.ref 142), K P (.str (S "_calculate_ratio") 402) (.ref 152), K P (.str (S "SequenceMatcher") 596) (.ref 249), K P (.str (S "_law_due") 604) (.ref 258), K P (.str (S "_law_turned") 610) (.ref 263), K P (.str (S "law") 616) (.ref 268)].toArray 19), #[]⟩
noncomputable def o27 (P : Params) : Obj := ⟨(.type "code"), none, (.fields #[(.str (S "_shorten") 198), (.str (S "_shorten") 199), (.str (S "/claim/cut.py") 200), (.int 6 0), (.int 3 0), (.int 0 0), (.int 0 0), (.int 3 0), (.ref 22), (.bool true), (.int 181 0), (.ref 23), .none, (.ref 24), (.ref 25), (.ref 26), (.int 205 0), (.int 6 0), (.str (S "/claim/cut.py") 206)]), #[]⟩
noncomputable def o28 (P : Params) : Obj := ⟨(.type "function"), none, (.func (fnOf (S "_shorten") (S "_shorten") (parOf (st 3)) (bodyOf (st 3)) (scoOf (st 3)) .none .none .none (.str (S "cpy313.unittest.util") 194) none (.ref 27) .none)), #[]⟩
noncomputable def o88 (P : Params) : Obj := ⟨(.type "code"), none, (.fields #[(.str (S "__new__") 288), (.str (S "Match.__new__") 289), (.str (S "/claim/cut.py") 290), (.int 36 0), (.int 4 0), (.int 0 0), (.int 0 0), (.int 3 0), (.ref 83), (.bool true), (.int 181 0), (.ref 84), .none, (.ref 85), (.ref 86), (.ref 87), (.int 295 0), (.int 36 0), (.str (S "/claim/cut.py") 296)]), #[]⟩
noncomputable def o89 (P : Params) : Obj := ⟨(.type "function"), none, (.func (fnOf (S "__new__") (S "Match.__new__") (parOf (me 6 4)) (bodyOf (me 6 4)) (scoOf (me 6 4)) .none .none (.str (dok (me 6 4)) 297) (.str (S "cpy313.difflib") 208) none (.ref 88) .none)), #[]⟩
noncomputable def o95 (P : Params) : Obj := ⟨(.type "code"), none, (.fields #[(.str (S "_make") 299), (.str (S "Match._make") 300), (.str (S "/claim/cut.py") 301), (.int 40 0), (.int 2 0), (.int 0 0), (.int 0 0), (.int 3 0), (.ref 90), (.bool true), (.int 181 0), (.ref 91), .none, (.ref 92), (.ref 93), (.ref 94), (.int 305 0), (.int 40 0), (.str (S "/claim/cut.py") 306)]), #[]⟩
noncomputable def o96 (P : Params) : Obj := ⟨(.type "function"), none, (.func (fnOf (S "_make") (S "Match._make") (parOf (me 6 5)) (bodyOf (me 6 5)) (scoOf (me 6 5)) .none .none (.str (dok (me 6 5)) 307) (.str (S "cpy313.difflib") 208) (some 99) (.ref 95) .none)), #[]⟩
noncomputable def o98 (P : Params) : Obj := ⟨(.type "classmethod"), some 97, (.fields #[(.ref 96), (.bool false)]), #[]⟩
noncomputable def o141 (P : Params) : Obj := ⟨(.type "dict"), none, (.dict [K P (.str (S "__module__") 274) (.str (S "cpy313.difflib") 208), K P (.str (S "__firstlineno__") 278) (.int 30 277), K P (.str (S "__doc__") 280) (.str (dok (st 6)) 279), K P (.str (S "__slots__") 282) (.ref 80), K P (.str (S "_fields") 286) (.ref 81), K P (.str (S "_field_defaults") 287) (.ref 82), K P (.str (S "__new__") 298) (.ref 143), K P (.str (S "_make") 320) (.ref 98), K P (.str (S "_replace") 331) (.ref 107), K P (.str (S "__replace__") 332) (.ref 107), K P (.str (S "__repr__") 340) (.ref 114), K P (.str (S "_asdict") 347) (.ref 121), K P (.str (S "__getnewargs__") 355) (.ref 128), K P (.str (S "__match_args__") 359) (.ref 129), K P (.str (S "a") 369) (.ref 131), K P (.str (S "b") 379) (.ref 134), K P (.str (S "size") 389) (.ref 137), K P (.str (S "__static_attributes__") 390) (.ref 139)].toArray 2), #[]⟩
noncomputable def o142 (P : Params) : Obj := ⟨(.type "type"), none, (.cls { name := S "Match", bases := [(.type "tuple")], mro := [(.ref 142), (.type "tuple"), (.type "object")], ns := 141, qualname := S "Match", hasDict := false }), #[some (.ref 72), none, some (.str (S "Match") 267), some (.str (S "Match") 275), some .none, some (.bool false)]⟩
noncomputable def o143 (P : Params) : Obj := ⟨(.type "staticmethod"), none, (.fields #[(.ref 89)]), #[]⟩
noncomputable def o160 (P : Params) : Obj := ⟨(.type "tuple"), none, (.seq #[.none, (.str (S "") 418), (.str (S "") 419), (.bool true)] 0), #[]⟩
noncomputable def o166 (P : Params) : Obj := ⟨(.type "code"), none, (.fields #[(.str (S "__init__") 420), (.str (S "SequenceMatcher.__init__") 421), (.str (S "/claim/cut.py") 422), (.int 152 0), (.int 5 0), (.int 0 0), (.int 0 0), (.int 3 0), (.ref 161), (.bool true), (.int 181 0), (.ref 162), .none, (.ref 163), (.ref 164), (.ref 165), (.int 428 0), (.int 152 0), (.str (S "/claim/cut.py") 429)]), #[]⟩
noncomputable def o167 (P : Params) : Obj := ⟨(.type "function"), none, (.func (fnOf (S "__init__") (S "SequenceMatcher.__init__") (parOf (me 8 1)) (bodyOf (me 8 1)) (scoOf (me 8 1)) (.ref 160) .none (.str (dok (me 8 1)) 430) (.str (S "cpy313.difflib") 208) none (.ref 166) .none)), #[]⟩
noncomputable def o173 (P : Params) : Obj := ⟨(.type "code"), none, (.fields #[(.str (S "set_seqs") 432), (.str (S "SequenceMatcher.set_seqs") 433), (.str (S "/claim/cut.py") 434), (.int 180 0), (.int 3 0), (.int 0 0), (.int 0 0), (.int 3 0), (.ref 168), (.bool true), (.int 181 0), (.ref 169), .none, (.ref 170), (.ref 171), (.ref 172), (.int 438 0), (.int 180 0), (.str (S "/claim/cut.py") 439)]), #[]⟩
noncomputable def o174 (P : Params) : Obj := ⟨(.type "function"), none, (.func (fnOf (S "set_seqs") (S "SequenceMatcher.set_seqs") (parOf (me 8 2)) (bodyOf (me 8 2)) (scoOf (me 8 2)) .none .none (.str (dok (me 8 2)) 440) (.str (S "cpy313.difflib") 208) none (.ref 173) .none)), #[]⟩
noncomputable def o180 (P : Params) : Obj := ⟨(.type "code"), none, (.fields #[(.str (S "set_seq1") 442), (.str (S "SequenceMatcher.set_seq1") 443), (.str (S "/claim/cut.py") 444), (.int 191 0), (.int 2 0), (.int 0 0), (.int 0 0), (.int 3 0), (.ref 175), (.bool true), (.int 181 0), (.ref 176), .none, (.ref 177), (.ref 178), (.ref 179), (.int 447 0), (.int 191 0), (.str (S "/claim/cut.py") 448)]), #[]⟩
noncomputable def o181 (P : Params) : Obj := ⟨(.type "function"), none, (.func (fnOf (S "set_seq1") (S "SequenceMatcher.set_seq1") (parOf (me 8 3)) (bodyOf (me 8 3)) (scoOf (me 8 3)) .none .none (.str (dok (me 8 3)) 449) (.str (S "cpy313.difflib") 208) none (.ref 180) .none)), #[]⟩
noncomputable def o187 (P : Params) : Obj := ⟨(.type "code"), none, (.fields #[(.str (S "set_seq2") 451), (.str (S "SequenceMatcher.set_seq2") 452), (.str (S "/claim/cut.py") 453), (.int 216 0), (.int 2 0), (.int 0 0), (.int 0 0), (.int 3 0), (.ref 182), (.bool true), (.int 181 0), (.ref 183), .none, (.ref 184), (.ref 185), (.ref 186), (.int 456 0), (.int 216 0), (.str (S "/claim/cut.py") 457)]), #[]⟩
noncomputable def o188 (P : Params) : Obj := ⟨(.type "function"), none, (.func (fnOf (S "set_seq2") (S "SequenceMatcher.set_seq2") (parOf (me 8 4)) (bodyOf (me 8 4)) (scoOf (me 8 4)) .none .none (.str (dok (me 8 4)) 458) (.str (S "cpy313.difflib") 208) none (.ref 187) .none)), #[]⟩
noncomputable def o194 (P : Params) : Obj := ⟨(.type "code"), none, (.fields #[(.str (S "__chain_b") 460), (.str (S "SequenceMatcher.__chain_b") 461), (.str (S "/claim/cut.py") 462), (.int 243 0), (.int 1 0), (.int 0 0), (.int 0 0), (.int 3 0), (.ref 189), (.bool true), (.int 181 0), (.ref 190), .none, (.ref 191), (.ref 192), (.ref 193), (.int 475 0), (.int 243 0), (.str (S "/claim/cut.py") 476)]), #[]⟩
noncomputable def o195 (P : Params) : Obj := ⟨(.type "function"), none, (.func (fnOf (S "__chain_b") (S "SequenceMatcher.__chain_b") (parOf (me 8 5)) (bodyOf (me 8 5)) (scoOf (me 8 5)) .none .none .none (.str (S "cpy313.difflib") 208) none (.ref 194) .none)), #[]⟩
noncomputable def o196 (P : Params) : Obj := ⟨(.type "tuple"), none, (.seq #[(.int 0 478), .none, (.int 0 479), .none] 0), #[]⟩
noncomputable def o202 (P : Params) : Obj := ⟨(.type "code"), none, (.fields #[(.str (S "find_longest_match") 480), (.str (S "SequenceMatcher.find_longest_match") 481), (.str (S "/claim/cut.py") 482), (.int 267 0), (.int 5 0), (.int 0 0), (.int 0 0), (.int 3 0), (.ref 197), (.bool true), (.int 181 0), (.ref 198), .none, (.ref 199), (.ref 200), (.ref 201), (.int 502 0), (.int 267 0), (.str (S "/claim/cut.py") 503)]), #[]⟩
noncomputable def o203 (P : Params) : Obj := ⟨(.type "function"), none, (.func (fnOf (S "find_longest_match") (S "SequenceMatcher.find_longest_match") (parOf (me 8 6)) (bodyOf (me 8 6)) (scoOf (me 8 6)) (.ref 196) .none (.str (dok (me 8 6)) 504) (.str (S "cpy313.difflib") 208) none (.ref 202) .none)), #[]⟩
noncomputable def o209 (P : Params) : Obj := ⟨(.type "code"), none, (.fields #[(.str (S "get_matching_blocks") 506), (.str (S "SequenceMatcher.get_matching_blocks") 507), (.str (S "/claim/cut.py") 508), (.int 342 0), (.int 1 0), (.int 0 0), (.int 0 0), (.int 3 0), (.ref 204), (.bool true), (.int 181 0), (.ref 205), .none, (.ref 206), (.ref 207), (.ref 208), (.int 529 0), (.int 342 0), (.str (S "/claim/cut.py") 530)]), #[]⟩
noncomputable def o210 (P : Params) : Obj := ⟨(.type "function"), none, (.func (fnOf (S "get_matching_blocks") (S "SequenceMatcher.get_matching_blocks") (parOf (me 8 7)) (bodyOf (me 8 7)) (scoOf (me 8 7)) .none .none (.str (dok (me 8 7)) 531) (.str (S "cpy313.difflib") 208) none (.ref 209) .none)), #[]⟩
noncomputable def o216 (P : Params) : Obj := ⟨(.type "code"), none, (.fields #[(.str (S "get_opcodes") 533), (.str (S "SequenceMatcher.get_opcodes") 534), (.str (S "/claim/cut.py") 535), (.int 390 0), (.int 1 0), (.int 0 0), (.int 0 0), (.int 3 0), (.ref 211), (.bool true), (.int 181 0), (.ref 212), .none, (.ref 213), (.ref 214), (.ref 215), (.int 544 0), (.int 390 0), (.str (S "/claim/cut.py") 545)]), #[]⟩
noncomputable def o217 (P : Params) : Obj := ⟨(.type "function"), none, (.func (fnOf (S "get_opcodes") (S "SequenceMatcher.get_opcodes") (parOf (me 8 8)) (bodyOf (me 8 8)) (scoOf (me 8 8)) .none .none (.str (dok (me 8 8)) 546) (.str (S "cpy313.difflib") 208) none (.ref 216) .none)), #[]⟩
noncomputable def o248 (P : Params) : Obj := ⟨(.type "dict"), none, (.dict [K P (.str (S "__module__") 410) (.str (S "cpy313.difflib") 208), K P (.str (S "__firstlineno__") 414) (.int 77 413), K P (.str (S "__doc__") 416) (.str (dok (st 8)) 415), K P (.str (S "__init__") 431) (.ref 167), K P (.str (S "set_seqs") 441) (.ref 174), K P (.str (S "set_seq1") 450) (.ref 181), K P (.str (S "set_seq2") 459) (.ref 188), K P (.str (S "_SequenceMatcher__chain_b") 477) (.ref 195), K P (.str (S "find_longest_match") 505) (.ref 203), K P (.str (S "get_matching_blocks") 532) (.ref 210), K P (.str (S "get_opcodes") 547) (.ref 217), K P (.str (S "get_grouped_opcodes") 556) (.ref 225), K P (.str (S "ratio") 565) (.ref 232), K P (.str (S "quick_ratio") 572) (.ref 239), K P (.str (S "real_quick_ratio") 579) (.ref 246), K P (.str (S "__static_attributes__") 590) (.ref 247), K P (.str (S "__dict__") 592) (.ref 250), K P (.str (S "__weakref__") 594) (.ref 251)].toArray 3), #[]⟩
noncomputable def o249 (P : Params) : Obj := ⟨(.type "type"), none, (.cls { name := S "SequenceMatcher", bases := [(.type "object")], mro := [(.ref 249), (.type "object")], ns := 248, qualname := S "SequenceMatcher", hasDict := true }), #[none, none, some (.str (S "SequenceMatcher") 403), some (.str (S "SequenceMatcher") 411), some (.builtin "object.__new__"), some (.bool true)]⟩
noncomputable def o257 (P : Params) : Obj := ⟨(.type "code"), none, (.fields #[(.str (S "_law_due") 599), (.str (S "_law_due") 600), (.str (S "/claim/cut.py") 601), (.int 470 0), (.int 3 0), (.int 0 0), (.int 0 0), (.int 3 0), (.ref 254), (.bool true), (.int 181 0), (.ref 255), .none, .none, .none, (.ref 256), (.int 602 0), (.int 470 0), (.str (S "/claim/cut.py") 603)]), #[]⟩
noncomputable def o258 (P : Params) : Obj := ⟨(.type "function"), none, (.func (fnOf (S "_law_due") (S "_law_due") (parOf (st 10)) (bodyOf (st 10)) (scoOf (st 10)) .none .none .none (.str (S "law_il0150_01") 597) none (.ref 257) .none)), #[]⟩
noncomputable def o262 (P : Params) : Obj := ⟨(.type "code"), none, (.fields #[(.str (S "_law_turned") 605), (.str (S "_law_turned") 606), (.str (S "/claim/cut.py") 607), (.int 492 0), (.int 1 0), (.int 0 0), (.int 0 0), (.int 3 0), (.ref 259), (.bool true), (.int 181 0), (.ref 260), .none, .none, .none, (.ref 261), (.int 608 0), (.int 492 0), (.str (S "/claim/cut.py") 609)]), #[]⟩
noncomputable def o263 (P : Params) : Obj := ⟨(.type "function"), none, (.func (fnOf (S "_law_turned") (S "_law_turned") (parOf (st 11)) (bodyOf (st 11)) (scoOf (st 11)) .none .none .none (.str (S "law_il0150_01") 597) none (.ref 262) .none)), #[]⟩
noncomputable def o267 (P : Params) : Obj := ⟨(.type "code"), none, (.fields #[(.str (S "law") 611), (.str (S "law") 612), (.str (S "/claim/cut.py") 613), (.int 495 0), (.int 1 0), (.int 0 0), (.int 0 0), (.int 3 0), (.ref 264), (.bool true), (.int 181 0), (.ref 265), .none, .none, .none, (.ref 266), (.int 614 0), (.int 495 0), (.str (S "/claim/cut.py") 615)]), #[]⟩
noncomputable def o268 (P : Params) : Obj := ⟨(.type "function"), none, (.func (fnOf (S "law") (S "law") (parOf (st 12)) (bodyOf (st 12)) (scoOf (st 12)) .none .none .none (.str (S "law_il0150_01") 597) none (.ref 267) .none)), #[]⟩
noncomputable def KL (P : Params) : List (Addr × Obj) := [(2, o2 P), (3, o3 P), (27, o27 P), (28, o28 P), (88, o88 P), (89, o89 P), (95, o95 P), (96, o96 P), (98, o98 P), (141, o141 P), (142, o142 P), (143, o143 P), (160, o160 P), (166, o166 P), (167, o167 P), (173, o173 P), (174, o174 P), (180, o180 P), (181, o181 P), (187, o187 P), (188, o188 P), (194, o194 P), (195, o195 P), (196, o196 P), (202, o202 P), (203, o203 P), (209, o209 P), (210, o210 P), (216, o216 P), (217, o217 P), (248, o248 P), (249, o249 P), (257, o257 P), (258, o258 P), (262, o262 P), (263, o263 P), (267, o267 P), (268, o268 P)]
noncomputable def KF : Params → Frag := KL
noncomputable def asK : List Addr := [2, 3, 27, 28, 88, 89, 95, 96, 98, 141, 142, 143, 160, 166, 167, 173, 174, 180, 181, 187, 188, 194, 195, 196, 202, 203, 209, 210, 216, 217, 248, 249, 257, 258, 262, 263, 267, 268]
-- 3. the run of the top, in one piece
noncomputable def qv : Program := view pw [0, 2, 3, 5, 6, 7, 8, 10, 11, 12]
noncomputable def loose : List Str := [Str.ofString "_tuplegetter", Str.ofString "Match", Str.ofString "SequenceMatcher"]
noncomputable def Xt (s : Shared) : Bool := xlAt qv [] s && recOk [] s
noncomputable def bootTreeB (b0 : Params → Obj) (P : Params) : BT :=
 .node (b0 P) (.node (boot_o_1 P) (.node (boot_o_3 P) (.node (boot_o_7 P) .nil .nil) .nil) (.node (boot_o_5 P) (.node (boot_o_9 P) .nil .nil) .nil)) (.node (boot_o_2 P) (.node (boot_o_4 P) (.node (boot_o_8 P) .nil .nil) .nil) (.node (boot_o_6 P) (.node (boot_o_10 P) .nil .nil) .nil))
noncomputable def bootTree (P : Params) : BT := bootTreeB boot_o_0 P
noncomputable def X (tb : String → Option Builtin) (b0 : Params → Obj) (w : World) (os : OsState) : Option (Flow × SharedT × Code × Pos) :=
  segRunT tb pw w 11 (some (.ref 6)) 0 2300 ⟨bootTreeB b0 w.params, 11, {}, #[], boot_drawn, boot_toks, os⟩ (topStub pw)
noncomputable def obsB (bh : Params → Heap) (P : Params) (s : Shared) : Bool := staticsOk (importedModules pw.main.body) (bh P) s.heap && namesBound pw s.heap && gensDone s && laidKept (bh P) s.heap
noncomputable def obs1 (P : Params) (s : Shared) : Bool := obsB boot_heap P s
noncomputable def Z (tb : String → Option Builtin) (b0 : Params → Obj) (bh : Params → Heap) (w : World) (os : OsState) := (X tb b0 w os).map fun r => (obsB bh w.params r.2.1.abs, openSeen qv loose (importedModules pw.main.body) Xt true r.2.1.abs, asK.map r.2.1.abs.heap.get?)
noncomputable def ZR (w : World) := some (true, openGood qv loose, (KL w.params).map fun p => some p.2)
end Mine
set_option maxHeartbeats 0 in
lay_quick Mine.Z Mine.ZR

theorem Mine.Z_is (w : World) (os : OsState) : PySem.W.Fast.tw3877076413022425093 Mine.table2 boot_o_0 boot_heap w os = PySem.W.Fast.tw235122925681258537 w := by kernel_rfl!

namespace Mine
theorem Z_run (w : World) (os : OsState) : Z table2 boot_o_0 boot_heap w os = ZR w := by
  rw [PySem.W.Fast.te3877076413022425093, PySem.W.Fast.te235122925681258537]
  exact Z_is w os
-- 4. table2 is the table
theorem table2_eq : table2 = treeTable := by
  funext id
  unfold table2
  cases h : PySem.W.S.eqLit 29827186395103491166823348853 id with
  | false => exact (congrFun PySem.W.Fast.te14364793385576792824 id).symm
  | true =>
    have hc : (fun t => t == "type.__new__") id = true := by
      rw [PySem.W.S.eqLit_eq "type.__new__" 29827186395103491166823348853 (by decide +kernel)]; exact h
    have hid : id = "type.__new__" := by simpa using hc
    subst hid
    show some new2 = treeTable "type.__new__"
    rw [← new2_eq, ← PySem.W.Fast.te4202317264376624991]
    exact Eq.symm (by kernel_rfl!)
theorem segRun_top {tb : String → Option Builtin} {p : Program} {w : World} {n₀ : Nat} {ann : Option Value} : ∀ {n : Nat} {s : Shared} {t : Thread} {f : Flow} {s' : Shared} {c : Code} {q : Pos},
    segRun tb p w n₀ ann 0 n s t = some (f, s', c, q) → topRun tb p w n₀ ann n s t = some s'
  | 0, _, _, _, _, _, _, h => by cases h
  | n + 1, s, t, f, s', c, q, h => by
    unfold segRun at h
    unfold topRun
    cases he : endAt 0 t with
    | some x =>
      rw [he] at h
      cases h
      have ht : through t = true := by
        unfold endAt at he
        unfold through
        split at he
        · rename_i h1 h2
          rw [h2]
          have : t.stack = [] := by simpa using h1
          rw [this]; rfl
        · cases he
      rw [ht]
    | none =>
      rw [he] at h
      have ht : through t = false := by
        cases hq : through t with
        | false => rfl
        | true =>
          exfalso
          unfold through at hq
          obtain ⟨h1, h2⟩ := Bool.and_eq_true_iff.mp hq
          unfold endAt at he
          have h1' : (t.stack.length == 0) = true := by
            cases hs : t.stack with
            | nil => rfl
            | cons a b => rw [hs] at h1; cases h1
          rw [h1'] at he
          split at h2
          · rename_i x hx; rw [hx] at he; cases he
          · cases h2
      rw [ht]
      cases hk : stepOk n₀ ann t with
      | false => rw [hk] at h; cases h
      | true =>
        rw [hk] at h
        cases hs : step (denote tb) p w s t with
        | halt o s₂ => rw [hs] at h; cases h
        | go s₂ t₂ => rw [hs] at h; exact segRun_top h
theorem boot_abs (P : Params) : absHeap (bootTree P) 11 {} = boot_heap P := rfl
theorem left_of_run {p q : Program} {loose : List Str} {Xt : Shared → Bool} {α : Type} {Yf : Shared → α} {Ya : World → α} {N : Nat} {H₀ : Params → Heap} {gs₀ : Array GenState} {d₀ : Drawn} {k₀ m₀ : Nat} {ann : Option Value} {M : Nat}
    (open_ : ∀ w : World, (fencedOpening treeTable p w N).map (fun s => (s.heap, s.gens, s.drawn, s.toks)) = some (H₀ w.params, gs₀, d₀, k₀))
    (size : ∀ w : World, ((H₀ w.params).isNs mainGlobals && gs₀.size == 0, (H₀ w.params).objs.size, (H₀ w.params).nsMap mainGlobals "__annotations__") = (true, m₀, ann))
    (run : ∀ (w : World) (os : OsState), ∃ s', topRun treeTable p w m₀ ann M ⟨H₀ w.params, gs₀, d₀, k₀, os⟩ (topStub p) = some s' ∧
      (staticsOk (importedModules p.main.body) (H₀ w.params) s'.heap && namesBound p s'.heap && gensDone s' && laidKept (H₀ w.params) s'.heap) = true ∧
      openSeen q loose (importedModules p.main.body) Xt true s' = openGood q loose ∧ Yf s' = Ya w) (le : Nat.ble M N = true) : LeftO p q loose Xt Yf Ya N := fun w => by
  obtain ⟨⟨h, gs, d, k, os⟩, e, e'⟩ := Option.map_eq_some_iff.mp (open_ w)
  obtain ⟨rfl, rfl, rfl, rfl⟩ : h = H₀ w.params ∧ gs = gs₀ ∧ d = d₀ ∧ k = k₀ := by simpa using e'
  obtain ⟨z1, z2, z3⟩ : _ ∧ _ ∧ _ := by simpa only [Prod.mk.injEq] using size w
  obtain ⟨s', r, l1, l2, l3⟩ := run w os
  have r := topRun_mono (N - M) _ _ _ _ r
  rw [show M + (N - M) = N by have := Nat.le_of_ble_eq_true le; (first|lia|omega)] at r
  have t : topFrom treeTable p w N ⟨H₀ w.params, gs, d, k, os⟩ = some s' := by
    unfold topFrom
    dsimp only
    rw [z1, z2, z3, r]
    show (match staticsOk (importedModules p.main.body) (H₀ w.params) s'.heap && namesBound p s'.heap && gensDone s' && laidKept (H₀ w.params) s'.heap with | true => _ | false => _) = _
    rw [l1]
  unfold openEnds
  rw [e]
  show (topFrom treeTable p w N _).map _ = _
  rw [t]
  exact congrArg some (Prod.ext l2 l3)
theorem run_of {tb : String → Option Builtin} {p : Program} {w : World} {n₀ : Nat} {ann : Option Value} {M : Nat} {T : BT} {n : Nat} {life : Life} {gs : Array GenState} {d : Drawn} {k : Nat} {os : OsState} {t : Thread} {H : Heap} {β γ δ : Type} {f : SharedT → β} {g : SharedT → γ} {h : SharedT → δ} {b : β} {c : γ} {e : δ}
    (htb : tb = treeTable) (hH : absHeap T n life = H) (z : (segRunT tb p w n₀ ann 0 M ⟨T, n, life, gs, d, k, os⟩ t).map (fun r => (f r.2.1, g r.2.1, h r.2.1)) = some (b, c, e)) :
    ∃ s' : SharedT, topRun treeTable p w n₀ ann M ⟨H, gs, d, k, os⟩ t = some s'.abs ∧ f s' = b ∧ g s' = c ∧ h s' = e := by
  subst htb hH
  obtain ⟨⟨fl, s', c', q⟩, hx, hz⟩ := Option.map_eq_some_iff.mp z
  obtain ⟨l1, l2, l3⟩ : _ ∧ _ ∧ _ := by simpa only [Prod.mk.injEq] using hz
  exact ⟨s', segRun_top (segRun_of hx), l1, l2, l3⟩
noncomputable abbrev HK : Hook := kHook KF asK (fun _ => by kernel_rfl)
theorem boot_size (P : Params) : ((boot_heap P).isNs mainGlobals && (Array.mk [] : Array GenState).size == 0, (boot_heap P).objs.size, (boot_heap P).nsMap mainGlobals "__annotations__") = (true, 11, some (.ref 6)) := by kernel_rfl!
theorem opening_is : opening pw = plainProg pw.main.scope.names := by kernel_rfl!
theorem fence_is (s : Shared) : fenceModules? pw s = some s := by kernel_rfl!
theorem Z_open (w : World) (os : OsState) : (segRunT table2 pw w 11 (some (.ref 6)) 0 2300 ⟨bootTree w.params, 11, {}, Array.mk [], boot_drawn, boot_toks, os⟩ (topStub pw)).map
    (fun r => (obs1 w.params r.2.1.abs, openSeen qv loose (importedModules pw.main.body) Xt true r.2.1.abs, asK.map r.2.1.abs.heap.get?)) = some (true, openGood qv loose, (KL w.params).map fun p => some p.2) := by
  have z := Z_run w os
  unfold Z ZR X at z
  exact z
theorem top_run (w : World) (os : OsState) : ∃ s', topRun treeTable pw w 11 (some (.ref 6)) 2300 ⟨boot_heap w.params, Array.mk [], boot_drawn, boot_toks, os⟩ (topStub pw) = some s' ∧
      (staticsOk (importedModules pw.main.body) (boot_heap w.params) s'.heap && namesBound pw s'.heap && gensDone s' && laidKept (boot_heap w.params) s'.heap) = true ∧
      openSeen qv loose (importedModules pw.main.body) Xt true s' = openGood qv loose ∧ asK.map s'.heap.get? = (KL w.params).map fun p => some p.2 := by
  obtain ⟨s', h1, h2, h3, h4⟩ := run_of (f := fun s => obs1 w.params s.abs) (g := fun s => openSeen qv loose (importedModules pw.main.body) Xt true s.abs) (h := fun s => asK.map s.abs.heap.get?) table2_eq (boot_abs w.params) (Z_open w os)
  exact ⟨s'.abs, h1, h2, h3, h4⟩
theorem left : LeftO pw qv loose Xt (fun s => asK.map s.heap.get?) (fun w => (KF w.params).map fun p => some p.2) 4586 :=
  left_of_run (H₀ := boot_heap) (gs₀ := Array.mk []) (d₀ := boot_drawn) (k₀ := boot_toks) (m₀ := 11) (ann := some (.ref 6)) (M := 2300) (boot_open opening_is rfl fence_is) (fun w => boot_size w.params) top_run rfl
-- what the walk knows behind the top
structure Base (w : World) (mg mb : Str → Option Value) (mean : ExcName → Option Value) (h : Heap) : Prop where
  K : (KF w.params).In h
  T : Top qv (looseW qv loose) mean mg mb h
-- the law, as the walk shows it
noncomputable def LawOk : Prop := ∀ (w : World) (mg mb : Str → Option Value) (mean : ExcName → Option Value) (s : Shared) (l : Addr) (vs : List Value) (ns : List Int) (Q : Value → Shared → Prop),
  Base w mg mb mean s.heap → s.heap.IsList l vs.toArray → IntsAre vs ns → ns.length ≤ 63 →
  (∀ h' t', (∀ b o, s.heap.get? b = some o → h'.get? b = some o) → Q (.bool true) { s with heap := h', toks := t' }) →
  wpAny (model pw w) callerA (call (.ref 268) [.ref l]) Q (fun _ _ => False) s
abbrev rw' : OpenLaw := PySem.Challenge.rw_il0150_01
theorem hook_is (P : Params) : asK = (KF P).map (·.1) := by kernel_rfl
theorem mg_law {w : World} {mg mb : Str → Option Value} {mean : ExcName → Option Value} {h : Heap} (B : Base w mg mb mean h) : mg (Str.ofString "law") = some (.ref 268) :=
  mg_of B.K B.T.g (by kernel_rfl)
set_option maxHeartbeats 4000000 in
theorem holds_of (H : LawOk) : rw'.Holds := by
  w_on
  o_law
  refine holds_open (q := qv) (loose := loose) (Xt := Xt) (XP := XL qv []) (YP := InK KF) (N := 4586) left (InK.of hook_is) InK.keeps (fun s e => xl_of s (Bool.and_eq_true_iff.mp e).1) XL.keeps (by rfl) (by rfl) (by rfl) (fun s e => recFacts_of (Bool.and_eq_true_iff.mp e).2) (by rfl) (by first | assumption | decide +kernel) (by decide +kernel) ⟨rfl, rfl, rfl, rfl, rfl, by decide +kernel⟩ ?hw ?hc
  case hw => w_witness2
  case hc =>
    intro w s₀ s₁ mg mb G Y fa o pm cd doc dV kV ho hd hcd hD hmg hg args vals as hpre hlay hrd hwl hlo
    have B : Base w mg mb (ExcName.means s₀.heap) s₁.heap := ⟨Y, G.T⟩
    have e1 := mg_law B
    have e2 : mg (Str.ofString "law") = some (.ref fa) := hmg
    obtain rfl : fa = 268 := by rw [e1] at e2; cases e2; rfl
    clear hmg e1 e2
    wrow_args hpre hlay hrd hwl hlo
    clear hcd hD ho
    rename_i ns _ _ _ _ _ _ _ l vs _ hL _ _ _ hI _ hle _
    have hle : ns.length ≤ 63 := by (first|lia|omega)
    refine wpAny_mono (H w mg mb _ s₁ l vs ns _ B hL hI hle ?_) (fun _ _ x => x) (fun _ _ x => x.elim)
    intro h' t' hk
    exact GoodW.toG ⟨.inl ⟨.bool true, .bool true, [], rfl, fun _ => rfl, .bool true, postW_of (by rfl) (w_eq_bool (w_res rfl) w_lit) (by rfl), fun _ => ⟨.nil, fun _ ha => nomatch ha⟩⟩, hk, rfl, hg⟩
-- a runner of straight trees: the objects that are loaded are handed in, in their order; what was done is written down
inductive Ev where
  | load (a : Addr) (o : Obj)
  | alloc (o : Obj)
  | upd (a : Addr) (f : Obj → Obj)
structure Res (α : Type) where
  out : Except Value α
  t : Nat
  os : List (Option Obj)
  n : Nat
  evs : List Ev
noncomputable def Res.pre {α : Type} (e : Ev) (r : Res α) : Res α := ⟨r.out, r.t, r.os, r.n, e :: r.evs⟩
noncomputable def Res.before {α : Type} (l : List Ev) (r : Res α) : Res α := ⟨r.out, r.t, r.os, r.n, l ++ r.evs⟩
noncomputable def okMark (h : Option Value) : Bool := match h with
  | none => true
  | some v => !decide (v = byPass)
noncomputable def two {α : Type} (b : Bool) (x y : Option α) : Option α := match b with
  | true => x
  | false => y
theorem two_eq {α : Type} {b : Bool} {x y : Option α} {r : α} (h : two b x y = some r) : (b = true ∧ x = some r) ∨ (b = false ∧ y = some r) := by
  cases b
  · exact .inr ⟨rfl, h⟩
  · exact .inl ⟨rfl, h⟩
mutual
noncomputable def run (kf : Addr → Option Obj) (tb : String → Option Builtin) (S : Setting) : Nat → Option Value → Nat → Nat → List (Option Obj) → (α : Type) → Sem α → Option (Res α)
  | 0, _, _, _, _, _, _ => none
  | f + 1, hd, n, t, os, α, tr => match tr with
    | .pure a => some ⟨.ok a, t, os, n, []⟩
    | .raise e => some ⟨.error e, t, os, n, []⟩
    | .rule _ k => run kf tb S f hd n t os α (k ())
    | .at _ k => run kf tb S f hd n t os α (k ())
    | .point _ k => run kf tb S f hd n t os α (k ())
    | .ask k => run kf tb S f hd n t os α (k S)
    | .fresh k => run kf tb S f hd n (t + 1) os α (k t)
    | .alloc o k => (run kf tb S f hd (n + 1) t os α (k n)).map (Res.pre (.alloc o))
    | .load a _ k => match os with
      | some o :: os => (run kf tb S f hd n t os α (k o)).map (Res.pre (.load a o))
      | none :: os => (kf a).bind fun o => run kf tb S f hd n t os α (k o)
      | [] => none
    | .update a _ g k => (run kf tb S f hd n t os α (k ())).map (Res.pre (.upd a g))
    | .handled own k => two own none (run kf tb S f hd n t os α (k hd))
    | .call c h _ _ k => two (okMark h) ((runC kf tb S f (h.or hd) n t os c).bind fun r => (run kf tb S f hd r.n r.t r.os α (k r.out)).map (Res.before r.evs)) none
    | _ => none
noncomputable def runC (kf : Addr → Option Obj) (tb : String → Option Builtin) (S : Setting) : Nat → Option Value → Nat → Nat → List (Option Obj) → Code → Option (Res Flow)
  | 0, _, _, _, _, _ => none
  | f + 1, hd, n, t, os, c => (run kf tb S f hd n t os Fin (denote tb c)).bind fun r => match r.out with
      | .error e => some ⟨.error e, r.t, r.os, r.n, r.evs⟩
      | .ok (.done fl) => some ⟨.ok fl, r.t, r.os, r.n, r.evs⟩
      | .ok (.again c') => two c'.quiet ((runC kf tb S f hd r.n r.t r.os c').map (Res.before r.evs)) none
end
noncomputable def Chk (kf : Addr → Option Obj) : List Ev → Heap → (Heap → Prop) → Prop
  | [], h, K => K h
  | .load a o :: es, h, K => h.get? a = some o ∧ Chk kf es h K
  | .alloc o :: es, h, K => Chk kf es (h.push o) K
  | .upd a f :: es, h, K => kf a = none ∧ (∃ o, h.get? a = some o) ∧ Chk kf es (h.update a f) K
theorem Chk.append {kf : Addr → Option Obj} {l₁ l₂ : List Ev} {h : Heap} {K : Heap → Prop} (x : Chk kf (l₁ ++ l₂) h K) : Chk kf l₁ h fun h' => Chk kf l₂ h' K := by
  induction l₁ generalizing h with
  | nil => exact x
  | cons e l ih => cases e with
    | load a o => exact ⟨x.1, ih x.2⟩
    | alloc o => exact ih (h := h.push o) x
    | upd a f => exact ⟨x.1, x.2.1, ih x.2.2⟩
theorem size_update (h : Heap) (a : Addr) (f : Obj → Obj) : (h.update a f).objs.size = h.objs.size := (Heap.SameBut.update ..).1
-- the address of each alloc is the heap's size
noncomputable def grows : List Ev → Nat
  | [] => 0
  | .alloc _ :: es => grows es + 1
  | _ :: es => grows es
theorem grows_append : ∀ l₁ l₂ : List Ev, grows (l₁ ++ l₂) = grows l₁ + grows l₂
  | [], l₂ => (Nat.zero_add _).symm
  | .load a o :: l, l₂ => grows_append l l₂
  | .alloc o :: l, l₂ => (congrArg (· + 1) (grows_append l l₂)).trans (Nat.add_right_comm ..)
  | .upd a f :: l, l₂ => grows_append l l₂
theorem okMark_ne {h : Option Value} (x : okMark h = true) : h ≠ some byPass := by
  rintro rfl
  simp [okMark] at x
noncomputable def Given (kf : Addr → Option Obj) (h : Heap) : Prop := ∀ a o, kf a = some o → h.get? a = some o
theorem Given.push {kf : Addr → Option Obj} {h : Heap} (x : Given kf h) (o : Obj) : Given kf (h.push o) := fun a o' e => Heap.get?_push_of_some o (x a o' e)
theorem Given.upd {kf : Addr → Option Obj} {h : Heap} (x : Given kf h) {a : Addr} (f : Obj → Obj) (ha : kf a = none) : Given kf (h.update a f) := fun b o e =>
  (Heap.get?_update_ne _ _ _ _ (by rintro rfl; rw [ha] at e; cases e)).trans (x b o e)
theorem Chk.given {kf : Addr → Option Obj} {l : List Ev} {h : Heap} {K K' : Heap → Prop} (x : Chk kf l h K) (gv : Given kf h) (k : ∀ h', h'.objs.size = h.objs.size + grows l → Given kf h' → K h' → K' h') : Chk kf l h K' := by
  induction l generalizing h with
  | nil => exact k h rfl gv x
  | cons e l ih => cases e with
    | load a o => exact ⟨x.1, ih x.2 gv k⟩
    | alloc o => exact ih (h := h.push o) x (gv.push o) fun h' e => k h' (by rw [e, Heap.size_push]; exact Nat.add_right_comm ..)
    | upd a f => exact ⟨x.1, x.2.1, ih x.2.2 (gv.upd f x.1) fun h' e => k h' (by rw [e, size_update]; rfl)⟩
section
variable {kf : Addr → Option Obj} {p : Program} {w : World}
mutual
theorem run_n : ∀ {f : Nat} {hd : Option Value} {n t : Nat} {os : List (Option Obj)} {α : Type} {tr : Sem α} {r : Res α}, run kf table ⟨p, w.params⟩ f hd n t os α tr = some r → r.n = n + grows r.evs
  | 0, _, _, _, _, _, _, _, h => by cases h
  | f + 1, hd, n, t, os, α, tr, r, h => by
    cases tr with
    | pure a => cases h; rfl
    | raise e => cases h; rfl
    | rule _ k => exact run_n (f := f) h
    | «at» _ k => exact run_n (f := f) h
    | point _ k => exact run_n (f := f) h
    | ask k => exact run_n (f := f) h
    | fresh k => exact run_n (f := f) h
    | alloc o k =>
      obtain ⟨r', h', rfl⟩ := Option.map_eq_some_iff.mp h
      exact (run_n (f := f) h').trans (Nat.add_right_comm ..)
    | load a q k => cases os with
      | nil => cases h
      | cons o os => cases o with
        | some o =>
          obtain ⟨r', h', rfl⟩ := Option.map_eq_some_iff.mp h
          exact (run_n (f := f) (r := r') h')
        | none =>
          obtain ⟨o, _, h'⟩ := Option.bind_eq_some_iff.mp h
          exact run_n (f := f) h'
    | update a q g k =>
      obtain ⟨r', h', rfl⟩ := Option.map_eq_some_iff.mp h
      exact (run_n (f := f) (r := r') h')
    | handled own k => cases own with
      | true => cases h
      | false => exact run_n (f := f) h
    | call c hm g l k =>
      rcases two_eq h with ⟨_, h⟩ | ⟨_, h⟩
      · obtain ⟨r₁, h₁, h⟩ := Option.bind_eq_some_iff.mp h
        obtain ⟨r', h', rfl⟩ := Option.map_eq_some_iff.mp h
        have a1 := runC_n (f := f) h₁
        have a2 := run_n (f := f) h'
        exact a2.trans (by rw [a1, Nat.add_assoc, ← grows_append]; rfl)
      · cases h
    | _ => cases h
theorem runC_n : ∀ {f : Nat} {hd : Option Value} {n t : Nat} {os : List (Option Obj)} {c : Code} {r : Res Flow}, runC kf table ⟨p, w.params⟩ f hd n t os c = some r → r.n = n + grows r.evs
  | 0, _, _, _, _, _, _, h => by cases h
  | f + 1, hd, n, t, os, c, r, h => by
    obtain ⟨⟨out, t₁, os₁, n₁, e₁⟩, h₁, h⟩ := Option.bind_eq_some_iff.mp h
    have a1 := run_n (f := f) h₁
    cases out with
    | error e => cases h; exact a1
    | ok x => cases x with
      | done fl => cases h; exact a1
      | again c' =>
        rcases two_eq h with ⟨_, h⟩ | ⟨_, h⟩
        · obtain ⟨r', h', rfl⟩ := Option.map_eq_some_iff.mp h
          have a2 := runC_n (f := f) h'
          exact a2.trans (by rw [a1, Nat.add_assoc, ← grows_append]; rfl)
        · cases h
end
mutual
theorem run_sound : ∀ {f : Nat} {hd : Option Value} {n t : Nat} {os : List (Option Obj)} {α : Type} {tr : Sem α} {r : Res α} {A : Around} {Q : α → Shared → Prop} {E : Value → Shared → Prop} {s : Shared},
    run kf table ⟨p, w.params⟩ f hd n t os α tr = some r → Given kf s.heap → A.handled = hd → s.heap.objs.size = n → s.toks = t →
    Chk kf r.evs s.heap (fun h' => match r.out with | .ok a => Q a { s with heap := h', toks := r.t } | .error e => E e { s with heap := h', toks := r.t }) → wpAny (model p w) A tr Q E s
  | 0, _, _, _, _, _, _, _, _, _, _, _, h, _, _, _, _, _ => by cases h
  | f + 1, hd, n, t, os, α, tr, r, A, Q, E, s, h, gv, ha, hn, ht, k => by
    cases tr with
    | pure a => cases h; subst ht; exact wpAny_pure k
    | raise e => cases h; subst ht; exact wpAny_throw k
    | rule _ c => exact X.x_rule (run_sound (f := f) h gv ha hn ht k)
    | «at» _ c => exact X.x_at (run_sound (f := f) h gv ha hn ht k)
    | point _ c => exact X.x_point (run_sound (f := f) h gv ha hn ht k)
    | ask c => exact X.x_ask (run_sound (f := f) h gv ha hn ht k)
    | fresh c =>
      subst ht
      exact X.x_fresh (run_sound (f := f) (s := { s with toks := s.toks + 1 }) h gv ha hn rfl k)
    | alloc o c =>
      obtain ⟨r', h', rfl⟩ := Option.map_eq_some_iff.mp h
      subst hn
      exact wpAny_bind (m := alloc o) (f := c) (wpAny_alloc (run_sound (f := f) (s := { s with heap := s.heap.push o }) h' (gv.push o) ha (by rw [Heap.size_push]) ht k))
    | load a q c => cases os with
      | nil => cases h
      | cons o os => cases o with
        | some o =>
          obtain ⟨r', h', rfl⟩ := Option.map_eq_some_iff.mp h
          exact X.x_load k.1 (run_sound (f := f) h' gv ha hn ht k.2)
        | none =>
          obtain ⟨o, hk, h⟩ := Option.bind_eq_some_iff.mp h
          exact X.x_load (gv a o hk) (run_sound (f := f) h gv ha hn ht k)
    | update a q g c =>
      obtain ⟨r', h', rfl⟩ := Option.map_eq_some_iff.mp h
      obtain ⟨hk, ⟨o, ho⟩, k2⟩ := k
      exact wpAny_bind (m := updatePart a q g) (f := c) (wpAny_updatePart ho (run_sound (f := f) (s := { s with heap := s.heap.update a g }) h' (gv.upd g hk) ha (by rw [size_update]; exact hn) ht k2))
    | handled own c => cases own with
      | true => cases h
      | false =>
        subst ha
        exact X.x_handled (run_sound (f := f) h gv rfl hn ht k)
    | call c hm g l k' =>
      rcases two_eq h with ⟨hok, h⟩ | ⟨_, h⟩
      · obtain ⟨r₁, h₁, h⟩ := Option.bind_eq_some_iff.mp h
        obtain ⟨r', h', rfl⟩ := Option.map_eq_some_iff.mp h
        have a1 := runC_n (f := f) h₁
        refine X.x_call (runC_sound (f := f) h₁ gv (by rw [← ha]; rfl) hn ht ((Chk.append k).given gv fun h₂ e₂ g₂ k₂ => ?_)) (okMark_ne hok)
        exact run_sound (f := f) (s := { s with heap := h₂, toks := r₁.t }) h' g₂ ha (by show h₂.objs.size = _; rw [e₂, a1, hn]) rfl k₂
      · cases h
    | _ => cases h
theorem runC_sound : ∀ {f : Nat} {hd : Option Value} {n t : Nat} {os : List (Option Obj)} {c : Code} {r : Res Flow} {A : Around} {R : Result → Shared → Prop} {s : Shared},
    runC kf table ⟨p, w.params⟩ f hd n t os c = some r → Given kf s.heap → A.handled = hd → s.heap.objs.size = n → s.toks = t →
    Chk kf r.evs s.heap (fun h' => R r.out { s with heap := h', toks := r.t }) → codeAny (model p w) A c R s
  | 0, _, _, _, _, _, _, _, _, _, h, _, _, _, _, _ => by cases h
  | f + 1, hd, n, t, os, c, r, A, R, s, h, gv, ha, hn, ht, k => by
    obtain ⟨⟨out, t₁, os₁, n₁, e₁⟩, h₁, h⟩ := Option.bind_eq_some_iff.mp h
    refine X.x_code (run_sound (f := f) h₁ gv ha hn ht ?_)
    have a1 := run_n (f := f) h₁
    cases out with
    | error e => cases h; exact k
    | ok x => cases x with
      | done fl => cases h; exact k
      | again c' =>
        rcases two_eq h with ⟨hq, h⟩ | ⟨_, h⟩
        · obtain ⟨r', h', rfl⟩ := Option.map_eq_some_iff.mp h
          refine (Chk.append k).given gv fun h₂ e₂ g₂ k₂ => ⟨hq, ?_⟩
          exact runC_sound (f := f) (s := { s with heap := h₂, toks := t₁ }) h' g₂ ha (by show h₂.objs.size = _; rw [e₂]; exact (congrArg (· + grows e₁) hn).trans a1.symm) rfl k₂
        · cases h
end
end
-- a run that stops at a call
structure Stop (α : Type) where
  t : Nat
  os : List (Option Obj)
  n : Nat
  evs : List Ev
  c : Code
  k : Except Value Flow → Sem α
noncomputable def Stop.pre {α : Type} (e : Ev) (r : Stop α) : Stop α := ⟨r.t, r.os, r.n, e :: r.evs, r.c, r.k⟩
noncomputable def Stop.before {α : Type} (l : List Ev) (r : Stop α) : Stop α := ⟨r.t, r.os, r.n, l ++ r.evs, r.c, r.k⟩
noncomputable def runTo (kf : Addr → Option Obj) (tb : String → Option Builtin) (S : Setting) (stop : Code → Bool) : Nat → Option Value → Nat → Nat → List (Option Obj) → (α : Type) → Sem α → Option (Stop α)
  | 0, _, _, _, _, _, _ => none
  | f + 1, hd, n, t, os, α, tr => match tr with
    | .rule _ k => runTo kf tb S stop f hd n t os α (k ())
    | .at _ k => runTo kf tb S stop f hd n t os α (k ())
    | .point _ k => runTo kf tb S stop f hd n t os α (k ())
    | .ask k => runTo kf tb S stop f hd n t os α (k S)
    | .fresh k => runTo kf tb S stop f hd n (t + 1) os α (k t)
    | .alloc o k => (runTo kf tb S stop f hd (n + 1) t os α (k n)).map (Stop.pre (.alloc o))
    | .load a _ k => match os with
      | some o :: os => (runTo kf tb S stop f hd n t os α (k o)).map (Stop.pre (.load a o))
      | none :: os => (kf a).bind fun o => runTo kf tb S stop f hd n t os α (k o)
      | [] => none
    | .update a _ g k => (runTo kf tb S stop f hd n t os α (k ())).map (Stop.pre (.upd a g))
    | .handled own k => two own none (runTo kf tb S stop f hd n t os α (k hd))
    | .call c h _ _ k => two (stop c) (match h with
        | none => some ⟨t, os, n, [], c, k⟩
        | some _ => none)
      (two (okMark h) ((runC kf tb S f (h.or hd) n t os c).bind fun r => (runTo kf tb S stop f hd r.n r.t r.os α (k r.out)).map (Stop.before r.evs)) none)
    | _ => none
section
variable {kf : Addr → Option Obj} {p : Program} {w : World} {stop : Code → Bool}
theorem runTo_sound : ∀ {f : Nat} {hd : Option Value} {n t : Nat} {os : List (Option Obj)} {α : Type} {tr : Sem α} {r : Stop α} {A : Around} {Q : α → Shared → Prop} {E : Value → Shared → Prop} {s : Shared},
    runTo kf table ⟨p, w.params⟩ stop f hd n t os α tr = some r → Given kf s.heap → A.handled = hd → s.heap.objs.size = n → s.toks = t →
    Chk kf r.evs s.heap (fun h' => codeAny (model p w) (A.mark none) r.c (fun res s' => wpAny (model p w) A (r.k res) Q E s') { s with heap := h', toks := r.t }) → wpAny (model p w) A tr Q E s
  | 0, _, _, _, _, _, _, _, _, _, _, _, h, _, _, _, _, _ => by cases h
  | f + 1, hd, n, t, os, α, tr, r, A, Q, E, s, h, gv, ha, hn, ht, k => by
    cases tr with
    | rule _ c => exact X.x_rule (runTo_sound (f := f) h gv ha hn ht k)
    | «at» _ c => exact X.x_at (runTo_sound (f := f) h gv ha hn ht k)
    | point _ c => exact X.x_point (runTo_sound (f := f) h gv ha hn ht k)
    | ask c => exact X.x_ask (runTo_sound (f := f) h gv ha hn ht k)
    | fresh c =>
      subst ht
      exact X.x_fresh (runTo_sound (f := f) (s := { s with toks := s.toks + 1 }) h gv ha hn rfl k)
    | alloc o c =>
      obtain ⟨r', h', rfl⟩ := Option.map_eq_some_iff.mp h
      subst hn
      exact wpAny_bind (m := alloc o) (f := c) (wpAny_alloc (runTo_sound (f := f) (s := { s with heap := s.heap.push o }) h' (gv.push o) ha (by rw [Heap.size_push]) ht k))
    | load a q c => cases os with
      | nil => cases h
      | cons o os => cases o with
        | some o =>
          obtain ⟨r', h', rfl⟩ := Option.map_eq_some_iff.mp h
          exact X.x_load k.1 (runTo_sound (f := f) h' gv ha hn ht k.2)
        | none =>
          obtain ⟨o, hk, h⟩ := Option.bind_eq_some_iff.mp h
          exact X.x_load (gv a o hk) (runTo_sound (f := f) h gv ha hn ht k)
    | update a q g c =>
      obtain ⟨r', h', rfl⟩ := Option.map_eq_some_iff.mp h
      obtain ⟨hk, ⟨o, ho⟩, k2⟩ := k
      exact wpAny_bind (m := updatePart a q g) (f := c) (wpAny_updatePart ho (runTo_sound (f := f) (s := { s with heap := s.heap.update a g }) h' (gv.upd g hk) ha (by rw [size_update]; exact hn) ht k2))
    | handled own c => cases own with
      | true => cases h
      | false =>
        subst ha
        exact X.x_handled (runTo_sound (f := f) h gv rfl hn ht k)
    | call c hm g l k' =>
      rcases two_eq h with ⟨_, h⟩ | ⟨_, h⟩
      · cases hm with
        | some _ => cases h
        | none =>
          cases h
          subst ht
          exact X.x_call k nofun
      · rcases two_eq h with ⟨hok, h⟩ | ⟨_, h⟩
        · obtain ⟨r₁, h₁, h⟩ := Option.bind_eq_some_iff.mp h
          obtain ⟨r', h', rfl⟩ := Option.map_eq_some_iff.mp h
          have a1 := runC_n (f := f) h₁
          refine X.x_call (runC_sound (f := f) h₁ gv (by rw [← ha]; rfl) hn ht ((Chk.append k).given gv fun h₂ e₂ g₂ k₂ => ?_)) (okMark_ne hok)
          exact runTo_sound (f := f) (s := { s with heap := h₂, toks := r₁.t }) h' g₂ ha (by show h₂.objs.size = _; rw [e₂, a1, hn]) rfl k₂
        · cases h
    | _ => cases h
end
-- the walk's judgement: no exception leaves
noncomputable abbrev WP {α : Type} (w : World) (A : Around) (t : Sem α) (Q : α → Shared → Prop) (s : Shared) : Prop := wpAny (model pw w) A t Q (fun _ _ => False) s
theorem sinj {a b : String} : (Str.ofString a = Str.ofString b) = (a = b) := by
  apply propext
  constructor
  · intro h
    rw [Str.ofString_eq_toList, Str.ofString_eq_toList] at h
    have h1 : a.toList.map Char.toNat = b.toList.map Char.toNat := by
      injection h with h
      have := congrArg Array.toList h
      simpa using this
    have h2 : a.toList = b.toList := by
      have inj : ∀ (x y : List Char), x.map Char.toNat = y.map Char.toNat → x = y := by
        intro x
        induction x with
        | nil => intro y e; cases y with
          | nil => rfl
          | cons c y => cases e
        | cons c x ih => intro y e; cases y with
          | nil => cases e
          | cons d y =>
            simp only [List.map_cons, List.cons.injEq] at e
            obtain ⟨e1, e2⟩ := e
            have : c = d := by
              have := congrArg Char.ofNat e1
              rwa [Char.ofNat_toNat, Char.ofNat_toNat] at this
            rw [this, ih y e2]
      exact inj _ _ h1
    exact String.toList_inj.mp h2
  · rintro rfl; rfl
-- statements one after the other
noncomputable def Seq (P : Shared → Prop) (Q : Flow → Shared → Prop) : Flow → Shared → Prop
  | .next, s => P s
  | f, s => Q f s
-- the end of a loop's turn
noncomputable def Turn (c b : Shared → Prop) (Q : Flow → Shared → Prop) : Flow → Shared → Prop
  | .next, s => c s
  | .cont, s => c s
  | .brk, s => b s
  | .ret v, s => Q (.ret v) s
-- around the walk: nothing handled, room below
structure AOk (A : Around) (d u : Nat) : Prop where
  hh : A.handled = none
  hd : A.depth ≤ d
  hu : A.units ≤ u
theorem AOk.deeper {A : Around} {d u : Nat} (h : AOk A d u) (env : Env) : AOk (A.deeper env) (d + 1) (u + 3) := ⟨h.hh, Nat.succ_le_succ h.hd, Nat.add_le_add_right h.hu 3⟩
theorem AOk.in1 {A : Around} {d u : Nat} (h : AOk A d u) : AOk A.in1 d (u + 1) := ⟨h.hh, h.hd, Nat.succ_le_succ h.hu⟩
theorem aok_caller : AOk callerA 301 4 := ⟨rfl, Nat.le_refl _, Nat.le_refl _⟩
section
variable {w : World} {A : Around} {env : Env} {gs : Array GenState} {dr : Drawn} {os : OsState} {h : Heap} {t : Nat} {s : Shared}
theorem r_cons {st : Stmt} {rest : List Stmt} {Q : Flow → Shared → Prop} (x : WP w A (exec st env) (Seq (fun s' => WP w A (execs rest env) Q s') Q) s) : WP w A (execs (st :: rest) env) Q s :=
  wpAny_execs_cons (wpAny_mono x (fun f s' y => by cases f <;> exact y) fun _ _ e => e)
theorem r_nil {P : Shared → Prop} {Q : Flow → Shared → Prop} (x : P s) : WP w A (execs [] env) (Seq P Q) s := wpAny_execs_nil x
theorem r_nilT {c b : Shared → Prop} {Q : Flow → Shared → Prop} (x : c s) : WP w A (execs [] env) (Turn c b Q) s := wpAny_execs_nil x
theorem r_nilQ {Q : Flow → Shared → Prop} (x : Q .next s) : WP w A (execs [] env) Q s := wpAny_execs_nil x
theorem r_assign {x : Str} {p pos : Pos} {value : Expr} {P : Shared → Prop} {Q : Flow → Shared → Prop} (hx : WP w A (eval value env) (fun v s₁ => WP w A (storeName env x v) (fun _ s₂ => P s₂) s₁) s)
    (hs : swapsWith value (some (.Name x p)) pos.line env = pure false := by with_unfolding_all rfl) : WP w A (exec (.Assign [.Name x p] value pos) env) (Seq P Q) s := wpAny_Assign_Name hx hs
theorem r_if {test : Expr} {body orelse : List Stmt} {pos : Pos} {Q : Flow → Shared → Prop}
    (x : WP w A (isTrue test env (eval test env)) (fun b s₂ => if b then WP w A (execs body env) Q s₂ else WP w A (execs orelse env) Q s₂) s) : WP w A (exec (.If test body orelse pos) env) Q s := wpAny_If x
theorem r_cont {pos : Pos} {c b : Shared → Prop} {P : Shared → Prop} {Q : Flow → Shared → Prop} (x : c s) : WP w A (exec (.Continue pos) env) (Seq P (Turn c b Q)) s := by
  intro Γ p hΓ; exact x
theorem r_brk {pos : Pos} {c b : Shared → Prop} {P : Shared → Prop} {Q : Flow → Shared → Prop} (x : b s) : WP w A (exec (.Break pos) env) (Seq P (Turn c b Q)) s := by
  intro Γ p hΓ; exact x
theorem r_ret {e : Expr} {pos : Pos} {P : Shared → Prop} {Q : Flow → Shared → Prop} (x : WP w A (eval e env) (fun v s' => Q (.ret v) s') s) : WP w A (exec (.Return (some e) pos) env) (Seq P Q) s :=
  wpAny_Return_some (wpAny_mono x (fun _ _ y => y) fun _ _ e => e)
-- values
theorem e_int {i : Int} {k : Nat} {pos : Pos} {Q : Value → Shared → Prop} (x : ∀ tv t', Q (.int i tv) ⟨h, gs, dr, t', os⟩) : WP w A (eval (.Constant (.int i) k pos) env) Q ⟨h, gs, dr, t, os⟩ := wpAny_Constant_int (x t (t + 1))
theorem e_none {k : Nat} {pos : Pos} {Q : Value → Shared → Prop} (x : Q .none s) : WP w A (eval (.Constant .none k pos) env) Q s := Constant_none x
theorem e_bool {b : Bool} {k : Nat} {pos : Pos} {Q : Value → Shared → Prop} (x : Q (.bool b) s) : WP w A (eval (.Constant (.bool b) k pos) env) Q s := Constant_bool x
theorem e_str {y : Str} {k : Nat} {pos : Pos} {Q : Value → Shared → Prop} (x : ∀ tv t', Q (.str y tv) ⟨h, gs, dr, t', os⟩) : WP w A (eval (.Constant (.str y) k pos) env) Q ⟨h, gs, dr, t, os⟩ := by
  show wpAny _ _ (mkText y) _ _ _
  exact wpAny_mkText (x t (t + 1))
theorem e_bin {l r : Expr} {op : Operator} {pos : Pos} {Q : Value → Shared → Prop} (x : WP w A (eval l env) (fun a s₁ => WP w A (eval r env) (fun b s₂ => WP w A (binaryOp op a b) Q s₂) s₁) s) : WP w A (eval (.BinOp l op r pos) env) Q s := wpAny_BinOp x
theorem e_cmp {l r : Expr} {op : CmpOp} {pos : Pos} {Q : Value → Shared → Prop} (x : WP w A (eval l env) (fun a s₁ => WP w A (eval r env) (fun b s₂ => WP w A (compareOp op a b) Q s₂) s₁) s)
    (hm : behindInMarks op r = false := by with_unfolding_all rfl) : WP w A (eval (.Compare l [op] [r] pos) env) Q s := wpAny_Compare1 x hm
theorem t_cmp {l r : Expr} {op : CmpOp} {pos : Pos} {whole : Sem Value} {Q : Bool → Shared → Prop} (x : WP w A (eval l env) (fun a s₁ => WP w A (eval r env) (fun b s₂ => WP w A (compareOp op a b) (fun c s₃ => WP w A (truthy c) Q s₃) s₂) s₁) s)
    (hm : behindInMarks op r = false := by with_unfolding_all rfl) : WP w A (isTrue (.Compare l [op] [r] pos) env whole) Q s := wpAny_isTrue_Compare1 x hm
theorem t_bool {b : Bool} {Q : Bool → Shared → Prop} (x : Q b s) : WP w A (truthy (.bool b)) Q s := wpAny_truthy_bool x
theorem o_add {a b : Int} {ta tb : Tok} {Q : Value → Shared → Prop} (x : ∀ tv t', Q (.int (a + b) tv) ⟨h, gs, dr, t', os⟩) : WP w A (binaryOp .Add (.int a ta) (.int b tb)) Q ⟨h, gs, dr, t, os⟩ := add_int (x t (t + 1))
theorem o_sub {a b : Int} {ta tb : Tok} {Q : Value → Shared → Prop} (x : ∀ tv t', Q (.int (a - b) tv) ⟨h, gs, dr, t', os⟩) : WP w A (binaryOp .Sub (.int a ta) (.int b tb)) Q ⟨h, gs, dr, t, os⟩ := sub_int (x t (t + 1))
theorem o_iadd {a b : Int} {ta tb : Tok} {Q : Value → Shared → Prop} (x : ∀ tv t', Q (.int (a + b) tv) ⟨h, gs, dr, t', os⟩) : WP w A (inplaceOp .Add (.int a ta) (.int b tb)) Q ⟨h, gs, dr, t, os⟩ := iadd_int (x t (t + 1))
theorem c_lt {a b : Int} {ta tb : Tok} {Q : Value → Shared → Prop} (x : Q (.bool (decide (a < b))) s) : WP w A (compareOp .Lt (.int a ta) (.int b tb)) Q s := lt_int x
theorem c_gt {a b : Int} {ta tb : Tok} {Q : Value → Shared → Prop} (x : Q (.bool (decide (b < a))) s) : WP w A (compareOp .Gt (.int a ta) (.int b tb)) Q s := gt_int x
theorem c_eq {a b : Int} {ta tb : Tok} {Q : Value → Shared → Prop} (x : Q (.bool (a == b)) s) : WP w A (compareOp .Eq (.int a ta) (.int b tb)) Q s := eq_int x
theorem c_ge {a b : Int} {ta tb : Tok} {Q : Value → Shared → Prop} (x : Q (.bool (decide (b ≤ a))) s) : WP w A (compareOp .GtE (.int a ta) (.int b tb)) Q s := PySem.P.ge_int x
-- names
theorem e_loc {g : Heap} {L : Addr} {m : Str → Option Value} {x : Str} {pos : Pos} {v : Value} {Q : Value → Shared → Prop} (F : Fr g L h m) (hL : env.locals = L) (hk : env.scope.kind = .function) (hl : env.kindOf x = some .local) (hd : (x == ("__debug__" : Str)) = false)
    (hv : m x = some v) (y : Q v ⟨h, gs, dr, t, os⟩) : WP w A (eval (.Name x pos) env) Q ⟨h, gs, dr, t, os⟩ := by
  subst hL; exact wpAny_Name (wpAny_loadName_local hk hl F.ns hv y) hd
theorem s_loc {g : Heap} {L : Addr} {m m' : Str → Option Value} {news : List (Addr × Obj)} {x : Str} {v : Value} {Q : Unit → Shared → Prop} (F : Fr g L h m) (N : News g L h news) (hL : env.locals = L) (hk : env.scope.kind = .function) (hl : env.kindOf x = some .local)
    (hm : (fun y => if y = x then some v else m y) = m') (y : ∀ h' t', Fr g L h' m' → News g L h' news → (∀ b, b ≠ L → h'.get? b = h.get? b) → Q () ⟨h', gs, dr, t', os⟩) : WP w A (storeName env x v) Q ⟨h, gs, dr, t, os⟩ := by
  subst hL
  refine wpAny_storeName_local hl F.ns (fun h' hn hs => ?_) (by rw [hk]; rfl)
  rw [hm] at hn
  exact y h' _ ⟨hn, fun b o e => (hs.2 b (Nat.ne_of_lt (Nat.lt_of_lt_of_le (Heap.lt_size e) F.above))).trans (F.keep b o e), F.above⟩ (N.set hs) fun b hb => hs.2 b hb
end
-- a frame's locals: names and values
noncomputable def LV : List String → List (Option Value) → Str → Option Value
  | n :: ns, v :: vs => fun y => if y = Str.ofString n then v else LV ns vs y
  | _, _ => fun _ => none
theorem LV_get : ∀ {ns : List String} {vs : List (Option Value)} (i : Nat) {n : String} {v : Option Value}, ns.Nodup → ns[i]? = some n → vs[i]? = some v → LV ns vs (Str.ofString n) = v
  | [], _, i, n, v, _, h, _ => by simp at h
  | m :: ns, [], i, n, v, _, _, h => by simp at h
  | m :: ns, u :: vs, 0, n, v, _, h1, h2 => by
    simp at h1 h2; subst h1 h2; simp [LV]
  | m :: ns, u :: vs, i + 1, n, v, hd, h1, h2 => by
    simp at h1 h2
    have hne : n ≠ m := by
      rintro rfl
      exact (List.nodup_cons.mp hd).1 (List.mem_of_getElem? h1)
    show (if Str.ofString n = Str.ofString m then u else LV ns vs (Str.ofString n)) = v
    rw [if_neg (by rw [sinj]; exact hne)]
    exact LV_get i (List.nodup_cons.mp hd).2 h1 h2
theorem LV_set : ∀ {ns : List String} {vs : List (Option Value)} (i : Nat) {n : String} {v : Value}, ns.Nodup → ns.length = vs.length → ns[i]? = some n → (fun y => if y = Str.ofString n then some v else LV ns vs y) = LV ns (vs.set i (some v))
  | [], _, i, n, v, _, _, h => by simp at h
  | m :: ns, [], i, n, v, _, h, _ => by simp at h
  | m :: ns, u :: vs, 0, n, v, _, _, h1 => by
    simp at h1; subst h1
    funext y
    simp only [LV, List.set]
    by_cases q : y = Str.ofString m <;> simp [q]
  | m :: ns, u :: vs, i + 1, n, v, hd, hl, h1 => by
    simp at h1 hl
    have ih := LV_set (vs := vs) (v := v) i (List.nodup_cons.mp hd).2 hl h1
    have hne : n ≠ m := by
      rintro rfl
      exact (List.nodup_cons.mp hd).1 (List.mem_of_getElem? h1)
    funext y
    have ih := congrFun ih y
    simp only [LV, List.set] at ih ⊢
    by_cases q : y = Str.ofString m
    · subst q
      rw [if_neg (by rw [sinj]; exact fun e => hne e.symm), if_pos rfl, if_pos rfl]
    · rw [if_neg q, if_neg q]; exact ih
structure NamesOk (ns : List String) (sc : Scope) : Prop where
  nodup : ns.Nodup
  kind : sc.kind = .function
  loc : (ns.all fun n => (match sc.names.lookup (Str.ofString n) with | some .local => true | _ => false) && !(Str.ofString n == ("__debug__" : Str))) = true
theorem NamesOk.at {ns : List String} {sc : Scope} (h : NamesOk ns sc) {n : String} (hn : n ∈ ns) : sc.names.lookup (Str.ofString n) = some .local ∧ (Str.ofString n == ("__debug__" : Str)) = false := by
  have := List.all_eq_true.mp h.loc n hn
  obtain ⟨a, b⟩ := Bool.and_eq_true_iff.mp this
  refine ⟨?_, by simpa using b⟩
  split at a
  · assumption
  · cases a
section
variable {w : World} {A : Around} {env : Env} {gs : Array GenState} {dr : Drawn} {os : OsState} {g h : Heap} {L : Addr} {t : Nat} {v : Value} {qual : Str} {sc : Scope} {f : Addr} {cd : Value} {ns : List String} {vs : List (Option Value)} {news : List (Addr × Obj)} {n : String} {pos : Pos}
theorem ld_of {Q : Value → Shared → Prop} (ok : NamesOk ns sc) (F : Fr g L h (LV ns vs)) (i : Nat) (h1 : ns[i]? = some n) (h2 : vs[i]? = some (some v)) (y : Q v ⟨h, gs, dr, t, os⟩) :
    WP w A (eval (.Name (Str.ofString n) pos) (envOf qual sc L f cd)) Q ⟨h, gs, dr, t, os⟩ :=
  e_loc F rfl ok.kind (ok.at (List.mem_of_getElem? h1)).1 (ok.at (List.mem_of_getElem? h1)).2 (LV_get i ok.nodup h1 h2) y
theorem st_of {vs' : List (Option Value)} {Q : Unit → Shared → Prop} (ok : NamesOk ns sc) (F : Fr g L h (LV ns vs)) (N : News g L h news) (i : Nat) (h1 : ns[i]? = some n)
    (y : ∀ h' t', Fr g L h' (LV ns vs') → News g L h' news → (∀ b, b ≠ L → h'.get? b = h.get? b) → Q () ⟨h', gs, dr, t', os⟩) (hl : ns.length = vs.length := by with_unfolding_all rfl) (hv : vs.set i (some v) = vs' := by with_unfolding_all rfl) :
    WP w A (storeName (envOf qual sc L f cd) (Str.ofString n) v) Q ⟨h, gs, dr, t, os⟩ :=
  s_loc F N rfl ok.kind (ok.at (List.mem_of_getElem? h1)).1 (hv ▸ LV_set i ok.nodup hl h1) y
end
-- the frame and the objects that are held: the walk's view of the heap
structure Hp (g : Heap) (L : Addr) (h : Heap) (m : Str → Option Value) (news : List (Addr × Obj)) : Prop where
  F : Fr g L h m
  N : News g L h news
  nd : (news.map (·.1)).Nodup
noncomputable abbrev Ext (h h' : Heap) : Prop := ∀ b o, h.get? b = some o → h'.get? b = some o
theorem Ext.refl (h : Heap) : Ext h h := fun _ _ e => e
theorem Ext.trans {a b c : Heap} (x : Ext a b) (y : Ext b c) : Ext a c := fun i o e => y i o (x i o e)
-- all is kept but one object
noncomputable abbrev ExtB (d : Addr) (h h' : Heap) : Prop := ∀ b o, b ≠ d → h.get? b = some o → h'.get? b = some o
section
variable {g h h' : Heap} {L a : Addr} {o o' : Obj} {m m' : Str → Option Value} {news : List (Addr × Obj)}
theorem Hp.at (H : Hp g L h m news) (i : Nat) (e : news[i]? = some (a, o)) : h.get? a = some o := (H.N _ (List.mem_of_getElem? e)).1
theorem Hp.ne (H : Hp g L h m news) (i : Nat) (e : news[i]? = some (a, o)) : a ≠ L := (H.N _ (List.mem_of_getElem? e)).2.1
theorem Hp.new (H : Hp g L h m news) (i : Nat) (e : news[i]? = some (a, o)) : g.get? a = none := (H.N _ (List.mem_of_getElem? e)).2.2
theorem Hp.base (H : Hp g L h m news) (e : g.get? a = some o) : h.get? a = some o := H.F.keep _ _ e
theorem Hp.ltL (H : Hp g L h m news) : L < h.objs.size := by
  obtain ⟨oL, _, _, hL, _⟩ := H.F.ns
  exact Heap.lt_size hL
theorem Hp.push (H : Hp g L h m news) (o : Obj) (hf : o.isFreed = false := by rfl) : Hp g L (h.push o) m ((h.objs.size, o) :: news) := by
  refine ⟨H.F.push o, H.N.push H.F o hf, List.nodup_cons.mpr ⟨fun q => ?_, H.nd⟩⟩
  obtain ⟨p, hp, e⟩ := List.mem_map.mp q
  exact absurd (Heap.lt_size (H.N p hp).1) (by rw [e]; exact Nat.lt_irrefl _)
theorem set_fst {a : Addr} {o o' : Obj} : ∀ (l : List (Addr × Obj)) (i : Nat), l[i]? = some (a, o) → (l.set i (a, o')).map (·.1) = l.map (·.1)
  | [], i, e => by simp at e
  | p :: l, 0, e => by simp at e; subst e; rfl
  | p :: l, i + 1, e => by simp at e; simp [set_fst l i e]
theorem mem_set_of {a : Addr} {o o' : Obj} : ∀ (l : List (Addr × Obj)) (i : Nat), l[i]? = some (a, o) → (l.map (·.1)).Nodup → ∀ p ∈ l.set i (a, o'), p = (a, o') ∨ (p ∈ l ∧ p.1 ≠ a)
  | [], i, e, _, p, hp => by simp at e
  | q :: l, 0, e, nd, p, hp => by
    simp at e; subst e
    rcases List.mem_cons.mp hp with rfl | hp
    · exact .inl rfl
    · exact .inr ⟨.tail _ hp, fun z => (List.nodup_cons.mp nd).1 (List.mem_map.mpr ⟨p, hp, z⟩)⟩
  | q :: l, i + 1, e, nd, p, hp => by
    simp at e
    rcases List.mem_cons.mp hp with rfl | hp
    · exact .inr ⟨.head _, fun z => (List.nodup_cons.mp nd).1 (List.mem_map.mpr ⟨_, List.mem_of_getElem? e, z.symm⟩)⟩
    · rcases mem_set_of l i e (List.nodup_cons.mp nd).2 p hp with r | ⟨r, r'⟩
      · exact .inl r
      · exact .inr ⟨.tail _ r, r'⟩
theorem Hp.extB (H : Hp g L h m news) (i : Nat) (e : news[i]? = some (a, o)) (k : ExtB a h h') (ho : h'.get? a = some o') : Hp g L h' m (news.set i (a, o')) := by
  have ha := H.ne i e
  have hn := H.new i e
  obtain ⟨oL, es, ep, hL, r⟩ := H.F.ns
  refine ⟨⟨⟨oL, es, ep, k _ _ ha.symm hL, r⟩, fun b x q => k _ _ (fun z => by rw [z, hn] at q; cases q) (H.F.keep b x q), H.F.above⟩, fun p hp => ?_, ?_⟩
  · rcases mem_set_of news i e H.nd p hp with rfl | ⟨hp, hne⟩
    · exact ⟨ho, ha, hn⟩
    · exact ⟨k _ _ hne (H.N p hp).1, (H.N p hp).2⟩
  · rw [set_fst news i e]; exact H.nd
theorem Hp.put (H : Hp g L h m news) (i : Nat) (e : news[i]? = some (a, o)) (s : Heap.SameBut a h h') (ho : h'.get? a = some o') : Hp g L h' m (news.set i (a, o')) :=
  H.extB i e (fun b x hb q => (s.2 b hb).trans q) ho
theorem Hp.upd (H : Hp g L h m news) (i : Nat) (e : news[i]? = some (a, o)) (f : Obj → Obj) (hf : (f o).isFreed = false := by rfl) : Hp g L (h.update a f) m (news.set i (a, f o)) :=
  H.put i e (Heap.SameBut.update ..) (Heap.get?_update_self _ (H.at i e) hf)
theorem Hp.ext (H : Hp g L h m news) (k : Ext h h') : Hp g L h' m news := by
  obtain ⟨oL, es, ep, hL, r⟩ := H.F.ns
  exact ⟨⟨⟨oL, es, ep, k _ _ hL, r⟩, fun b x q => k _ _ (H.F.keep b x q), H.F.above⟩, fun p hp => ⟨k _ _ (H.N p hp).1, (H.N p hp).2⟩, H.nd⟩
theorem Hp.loc (H : Hp g L h m news) (hn : h'.Ns L m') (s : Heap.SameBut L h h') : Hp g L h' m' news :=
  ⟨H.F.set hn s, H.N.set s, H.nd⟩
theorem Hp.sub {news' : List (Addr × Obj)} (H : Hp g L h m news) (s : news'.Sublist news) : Hp g L h m news' :=
  ⟨H.F, fun p hp => H.N p (s.subset hp), H.nd.sublist (s.map _)⟩
theorem Hp.drop (H : Hp g L h m news) (i : Nat) : Hp g L h m (news.eraseIdx i) := H.sub (List.eraseIdx_sublist ..)
theorem Hp.skip (H : Hp g L h m news) (i : Nat) : Hp g L h m (news.drop i) := H.sub (List.drop_sublist ..)
-- an object of another kind is another object
theorem ne_of_obj {b : Addr} {x y : Obj} (ea : h.get? a = some x) (eb : h.get? b = some y) (hne : x ≠ y) : a ≠ b := by
  rintro rfl; rw [ea] at eb; exact hne (Option.some.inj eb)
theorem Hp.ne2 {b : Addr} (H : Hp g L h m news) (i j : Nat) (hij : i ≠ j) (e : news[i]? = some (a, o)) (e' : news[j]? = some (b, o')) : a ≠ b := by
  rintro rfl
  have h1 : (news.map (·.1))[i]? = some a := by simp [e]
  have h2 : (news.map (·.1))[j]? = some a := by simp [e']
  exact hij ((List.getElem?_inj (by have := List.getElem?_eq_some_iff.mp h1; exact this.1) H.nd).mp (h1.trans h2.symm))
end
section
variable {w : World} {A : Around} {gs : Array GenState} {dr : Drawn} {os : OsState} {g h : Heap} {L : Addr} {t : Nat} {v : Value} {qual : Str} {sc : Scope} {f : Addr} {cd : Value} {ns : List String} {vs : List (Option Value)} {news : List (Addr × Obj)} {n : String} {pos : Pos}
theorem ldH_of {Q : Value → Shared → Prop} (ok : NamesOk ns sc) (H : Hp g L h (LV ns vs) news) (i : Nat) (h1 : ns[i]? = some n) (h2 : vs[i]? = some (some v)) (y : Q v ⟨h, gs, dr, t, os⟩) :
    WP w A (eval (.Name (Str.ofString n) pos) (envOf qual sc L f cd)) Q ⟨h, gs, dr, t, os⟩ := ld_of ok H.F i h1 h2 y
theorem stH_of {vs' : List (Option Value)} {Q : Unit → Shared → Prop} (ok : NamesOk ns sc) (H : Hp g L h (LV ns vs) news) (i : Nat) (h1 : ns[i]? = some n)
    (y : ∀ h' t', Hp g L h' (LV ns vs') news → Q () ⟨h', gs, dr, t', os⟩) (hl : ns.length = vs.length := by rfl) (hv : vs.set i (some v) = vs' := by rfl) :
    WP w A (storeName (envOf qual sc L f cd) (Str.ofString n) v) Q ⟨h, gs, dr, t, os⟩ :=
  st_of ok H.F H.N i h1 (fun h' t' F N k => y h' t' ⟨F, N, H.nd⟩) hl hv
end
-- what is known behind the top
noncomputable def Bs (w : World) (h : Heap) : Prop := ∃ mg mb mean, Base w mg mb mean h
theorem Bs.keeps {w : World} {h h' : Heap} (B : Bs w h) (k : Ext h h') : Bs w h' := by
  obtain ⟨mg, mb, mean, ⟨K, T⟩⟩ := B
  exact ⟨mg, mb, mean, ⟨fun a o e => k _ _ (K a o e), T.keeps k⟩⟩
theorem Bs.K {w : World} {h : Heap} (B : Bs w h) : (KF w.params).In h := by
  obtain ⟨mg, mb, mean, ⟨K, T⟩⟩ := B; exact K
theorem Bs.lim {w : World} {h : Heap} (B : Bs w h) : h.NoLimit := by
  obtain ⟨mg, mb, mean, ⟨K, T⟩⟩ := B; exact T.nolimit
-- entering a function
theorem lookup_rev {κ α : Type} [BEq κ] [LawfulBEq κ] (x : κ) : ∀ l : List (κ × α), (l.map (·.1)).Nodup → l.reverse.lookup x = l.lookup x
  | [], _ => rfl
  | (k, v) :: l, nd => by
    have nd := List.nodup_cons.mp nd
    rw [List.reverse_cons, List.lookup_append, lookup_rev x l nd.2]
    by_cases q : x = k
    · subst q
      have : l.lookup x = none := by
        rw [List.lookup_eq_none_iff]
        intro p hp
        have : x ≠ p.1 := fun z => nd.1 (List.mem_map.mpr ⟨p, hp, z.symm⟩)
        simpa using this
      simp [this, List.lookup]
    · have hq : (x == k) = false := by simpa using q
      simp [List.lookup, hq]
theorem LV_lookup : ∀ (ns : List String) (vs : List Value), (fun x => ((ns.map Str.ofString).zip vs).lookup x) = LV ns (vs.map some ++ List.replicate (ns.length - vs.length) none)
  | [], vs => by funext x; cases vs <;> rfl
  | n :: ns, [] => by
    funext x
    have : ∀ (ns : List String) (k : Nat), LV ns (List.replicate k none) x = none := by
      intro ns
      induction ns with
      | nil => intro k; cases k <;> rfl
      | cons n ns ih => intro k; cases k with
        | zero => rfl
        | succ k => simp only [List.replicate, LV]; split; rfl; exact ih k
    simp [this]
  | n :: ns, v :: vs => by
    funext x
    have ih := congrFun (LV_lookup ns vs) x
    simp only [List.map_cons, List.zip_cons_cons, List.lookup_cons, List.length_cons, Nat.add_sub_add_right, List.cons_append, LV]
    by_cases q : x = Str.ofString n
    · subst q; simp
    · have hq : (x == Str.ofString n) = false := by simpa using q
      rw [hq, if_neg q]; exact ih
theorem LV_binds {ns : List String} {vs : List Value} (nd : ns.Nodup) : (fun x => ((ns.map Str.ofString).zip vs).reverse.lookup x) = LV ns (vs.map some ++ List.replicate (ns.length - vs.length) none) := by
  rw [← LV_lookup]
  funext x
  refine lookup_rev x _ ?_
  have : (((ns.map Str.ofString).zip vs).map (·.1)).Sublist (ns.map Str.ofString) := by
    generalize ns.map Str.ofString = l
    induction l generalizing vs with
    | nil => simp
    | cons a l ih => cases vs with
      | nil => simp
      | cons v vs => simpa using (ih (vs := vs))
  refine List.Nodup.sublist this ?_
  exact List.Pairwise.map (R := (· ≠ ·)) Str.ofString (fun a b hab e => hab (by rwa [sinj] at e)) nd
noncomputable def Ret (Q : Value → Shared → Prop) : Flow → Shared → Prop := fun f s' => Q (match f with | .ret v => v | _ => .none) s'
section
variable {w : World} {A : Around} {gs : Array GenState} {dr : Drawn} {os : OsState} {h : Heap} {t : Nat}
theorem enterC {f : Addr} {name qual : Str} {params : Arguments} {body : List Stmt} {scope : Scope} {dV kV doc pm cdv ct oc : Value} {an od : Option Addr} {osl : Array (Option Value)} {args : List Value} {vs : List Value} {ns : List String} {Q : Value → Shared → Prop} {d u : Nat} {news : List (Addr × Obj)}
    (g : Heap) (B : Bs w g) (hg : Ext g h) (hs : g.objs.size ≤ h.objs.size) (hid : ∀ p ∈ news, h.get? p.1 = some p.2 ∧ g.get? p.1 = none) (hnd : (news.map (·.1)).Nodup) (hA : AOk A d u) (hd : d < recursionLimit) (ok : NamesOk ns scope)
    (ho : (KF w.params).lookup f = some ⟨oc, od, .func (fnOf name qual params body scope dV kV doc pm an cdv ct), osl⟩) (hcd : codeIn (KF w.params) cdv qual = true)
    (hbind : BindsTo ⟨h, gs, dr, t, os⟩ (fnOf name qual params body scope dV kV doc pm an cdv ct) ⟨args, []⟩ ((ns.map Str.ofString).zip vs))
    (hcell : (scope.names.all fun x => x.2 != .cell) = true) (hco : scope.isCoroutine = false) (hgen : scope.isGenerator = false)
    (y : ∀ h' t', Hp g h.objs.size h' (LV ns (vs.map some ++ List.replicate (ns.length - vs.length) none)) news → Ext h h' →
      WP w (A.deeper (envOf qual scope h.objs.size f cdv)) (execs body (envOf qual scope h.objs.size f cdv)) (Ret Q) ⟨h', gs, dr, t', os⟩) :
    codeAny (model pw w) A (.call (.ref f) ⟨args, []⟩) (fun r s' => match r with | .ok (.ret v) => Q v s' | .ok _ => False | .error e => False) ⟨h, gs, dr, t, os⟩ := by
  have X : (KF w.params).In h := fun a o e => hg _ _ (B.K a o e)
  refine codeAny_call_def (fd := fnOf name qual params body scope dV kV doc pm an cdv ct) (body := body) (binds := (ns.map Str.ofString).zip vs) (Nat.lt_of_le_of_lt hA.hd hd) (X _ _ ho) rfl (B.lim.keeps hg) (codeRec_of X hcd) rfl hbind ?_ ?_ (fun h₁ hns hk₁ => ?_) hco hgen ok.kind
  · intro x hx e
    have := List.all_eq_true.mp hcell x hx
    rw [e] at this; cases this
  · rintro ⟨x, v⟩ hx
    have := (List.of_mem_zip hx).1
    obtain ⟨n, hn, rfl⟩ := List.mem_map.mp this
    exact (ok.at hn).1
  · have e : (fun x => ((ns.map Str.ofString).zip vs).reverse.lookup x) = _ := LV_binds (vs := vs) ok.nodup
    have hns' : h₁.Ns h.objs.size (LV ns (vs.map some ++ List.replicate (ns.length - vs.length) none)) := by rw [← e]; exact hns
    refine wpAny_mono (y h₁ _ ⟨⟨hns', fun b o e => hk₁ b o (hg b o e), hs⟩, fun p hp => ⟨hk₁ _ _ (hid p hp).1, Nat.ne_of_lt (Heap.lt_size (hid p hp).1), (hid p hp).2⟩, hnd⟩ hk₁) (fun fl s' x => x) (fun _ _ x => x.elim)
theorem enter {f : Addr} {name qual : Str} {params : Arguments} {body : List Stmt} {scope : Scope} {dV kV doc pm cdv ct oc : Value} {an od : Option Addr} {osl : Array (Option Value)} {args : List Value} {vs : List Value} {ns : List String} {Q : Value → Shared → Prop} {d u : Nat} {news : List (Addr × Obj)}
    (g : Heap) (B : Bs w g) (hg : Ext g h) (hs : g.objs.size ≤ h.objs.size) (hid : ∀ p ∈ news, h.get? p.1 = some p.2 ∧ g.get? p.1 = none) (hnd : (news.map (·.1)).Nodup) (hA : AOk A d u) (hd : d < recursionLimit) (ok : NamesOk ns scope)
    (ho : (KF w.params).lookup f = some ⟨oc, od, .func (fnOf name qual params body scope dV kV doc pm an cdv ct), osl⟩) (hcd : codeIn (KF w.params) cdv qual = true)
    (hbind : BindsTo ⟨h, gs, dr, t, os⟩ (fnOf name qual params body scope dV kV doc pm an cdv ct) ⟨args, []⟩ ((ns.map Str.ofString).zip vs))
    (hcell : (scope.names.all fun x => x.2 != .cell) = true) (hco : scope.isCoroutine = false) (hgen : scope.isGenerator = false)
    (y : ∀ h' t', Hp g h.objs.size h' (LV ns (vs.map some ++ List.replicate (ns.length - vs.length) none)) news → Ext h h' →
      WP w (A.deeper (envOf qual scope h.objs.size f cdv)) (execs body (envOf qual scope h.objs.size f cdv)) (Ret Q) ⟨h', gs, dr, t', os⟩) :
    WP w A (call (.ref f) args) Q ⟨h, gs, dr, t, os⟩ :=
  wpAny_call (enterC g B hg hs hid hnd hA hd ok ho hcd hbind hcell hco hgen y)
end
section
variable {w : World} {A : Around} {gs : Array GenState} {dr : Drawn} {os : OsState} {g h : Heap} {L : Addr} {t : Nat} {v : Value} {qual : Str} {sc : Scope} {f : Addr} {cd : Value} {m : Str → Option Value} {news : List (Addr × Obj)} {x : Str} {pos : Pos} {env : Env}
-- global names
theorem e_glob {Q : Value → Shared → Prop} (B : Bs w g) (H : Hp g L h m news) (e : nsIn (KF w.params) mainGlobals x = some (some v)) (y : Q v ⟨h, gs, dr, t, os⟩)
    (hk : sc.kind = .function) (hx : sc.names.lookup x = some .globalImplicit) (hd : (x == ("__debug__" : Str)) = false := by decide) :
    WP w A (eval (.Name x pos) (envOf qual sc L f cd)) Q ⟨h, gs, dr, t, os⟩ := by
  obtain ⟨mg, mb, mean, B⟩ := B
  exact name_K H.F B.K (topRead_of B.T) e y hk hx hd
theorem e_blt {Q : Value → Shared → Prop} (B : Bs w g) (H : Hp g L h m news) (e : nsIn (KF w.params) mainGlobals x = some none) (hv : bootBuiltins x = some v) (hn : x ≠ "__name__") (y : Q v ⟨h, gs, dr, t, os⟩)
    (hk : sc.kind = .function) (hx : sc.names.lookup x = some .globalImplicit) (hd : (x == ("__debug__" : Str)) = false := by decide) :
    WP w A (eval (.Name x pos) (envOf qual sc L f cd)) Q ⟨h, gs, dr, t, os⟩ := by
  obtain ⟨mg, mb, mean, B⟩ := B
  exact name_B H.F B.K (topRead_of B.T) e hv hn y hk hx hd
end
theorem nmB_len (P : Params) : nsIn (KF P) mainGlobals (Str.ofString "len") = some none := by kernel_rfl!
theorem nmB_tuple (P : Params) : nsIn (KF P) mainGlobals (Str.ofString "tuple") = some none := by kernel_rfl!
theorem nmB_range (P : Params) : nsIn (KF P) mainGlobals (Str.ofString "range") = some none := by kernel_rfl!
theorem nmB_list (P : Params) : nsIn (KF P) mainGlobals (Str.ofString "list") = some none := by kernel_rfl!
theorem nmB_map (P : Params) : nsIn (KF P) mainGlobals (Str.ofString "map") = some none := by kernel_rfl!
theorem nmB_set (P : Params) : nsIn (KF P) mainGlobals (Str.ofString "set") = some none := by kernel_rfl!
theorem nmB_enumerate (P : Params) : nsIn (KF P) mainGlobals (Str.ofString "enumerate") = some none := by kernel_rfl!
theorem nmB_sum (P : Params) : nsIn (KF P) mainGlobals (Str.ofString "sum") = some none := by kernel_rfl!
theorem nmB_min (P : Params) : nsIn (KF P) mainGlobals (Str.ofString "min") = some none := by kernel_rfl!
theorem nmB_str (P : Params) : nsIn (KF P) mainGlobals (Str.ofString "str") = some none := by kernel_rfl!
theorem bbB_len : bootBuiltins (Str.ofString "len") = some (.builtin "len") := by kernel_rfl!
theorem bbB_tuple : bootBuiltins (Str.ofString "tuple") = some (.type "tuple") := by kernel_rfl!
theorem bbB_range : bootBuiltins (Str.ofString "range") = some (.type "range") := by kernel_rfl!
theorem bbB_list : bootBuiltins (Str.ofString "list") = some (.type "list") := by kernel_rfl!
theorem bbB_map : bootBuiltins (Str.ofString "map") = some (.type "map") := by kernel_rfl!
theorem bbB_set : bootBuiltins (Str.ofString "set") = some (.type "set") := by kernel_rfl!
theorem bbB_enumerate : bootBuiltins (Str.ofString "enumerate") = some (.type "enumerate") := by kernel_rfl!
theorem bbB_sum : bootBuiltins (Str.ofString "sum") = some (.builtin "sum") := by kernel_rfl!
theorem bbB_min : bootBuiltins (Str.ofString "min") = some (.builtin "min") := by kernel_rfl!
theorem bbB_str : bootBuiltins (Str.ofString "str") = some (.type "str") := by kernel_rfl!
theorem nmG_hold (P : Params) : nsIn (KF P) mainGlobals (Str.ofString "_PLACEHOLDER_LEN") = some (some (.int 12 196)) := by kernel_rfl!
theorem nmG_Match (P : Params) : nsIn (KF P) mainGlobals (Str.ofString "Match") = some (some (.ref 142)) := by kernel_rfl!
theorem nmG_due (P : Params) : nsIn (KF P) mainGlobals (Str.ofString "_law_due") = some (some (.ref 258)) := by kernel_rfl!
theorem nmG_turned (P : Params) : nsIn (KF P) mainGlobals (Str.ofString "_law_turned") = some (some (.ref 263)) := by kernel_rfl!
theorem nmG_shorten (P : Params) : nsIn (KF P) mainGlobals (Str.ofString "_shorten") = some (some (.ref 28)) := by kernel_rfl!
theorem nmG_SM (P : Params) : nsIn (KF P) mainGlobals (Str.ofString "SequenceMatcher") = some (some (.ref 249)) := by kernel_rfl!
-- shorten
noncomputable def env_shorten (L : Addr) : Env := envOf (Str.ofString "_shorten") (scoOf (st 3)) L 28 (.ref 27)
noncomputable def ns_shorten : List String := ["s", "prefixlen", "suffixlen", "skip"]
theorem ok_shorten : NamesOk ns_shorten (scoOf (st 3)) := ⟨by decide, by kernel_rfl!, by kernel_rfl!⟩
section
variable {w : World} {A : Around} {gs : Array GenState} {dr : Drawn} {os : OsState} {g h : Heap} {L : Addr} {t : Nat} {v : Value} {v0 v1 v2 v3 : Option Value} {r : List (Option Value)} {news : List (Addr × Obj)} {pos : Pos}
theorem ld_shorten_0 {Q : Value → Shared → Prop} (H : Hp g L h (LV ns_shorten (some v :: r)) news) (y : Q v ⟨h, gs, dr, t, os⟩) : WP w A (eval (.Name (Str.ofString "s") pos) (env_shorten L)) Q ⟨h, gs, dr, t, os⟩ := ldH_of ok_shorten H 0 rfl rfl y
theorem st_shorten_0 {Q : Unit → Shared → Prop} (H : Hp g L h (LV ns_shorten [v0, v1, v2, v3]) news) (y : ∀ h' t', Hp g L h' (LV ns_shorten [some v, v1, v2, v3]) news → Q () ⟨h', gs, dr, t', os⟩) : WP w A (storeName (env_shorten L) (Str.ofString "s") v) Q ⟨h, gs, dr, t, os⟩ := stH_of ok_shorten H 0 rfl y
theorem ld_shorten_1 {Q : Value → Shared → Prop} (H : Hp g L h (LV ns_shorten (v0 :: some v :: r)) news) (y : Q v ⟨h, gs, dr, t, os⟩) : WP w A (eval (.Name (Str.ofString "prefixlen") pos) (env_shorten L)) Q ⟨h, gs, dr, t, os⟩ := ldH_of ok_shorten H 1 rfl rfl y
theorem ld_shorten_2 {Q : Value → Shared → Prop} (H : Hp g L h (LV ns_shorten (v0 :: v1 :: some v :: r)) news) (y : Q v ⟨h, gs, dr, t, os⟩) : WP w A (eval (.Name (Str.ofString "suffixlen") pos) (env_shorten L)) Q ⟨h, gs, dr, t, os⟩ := ldH_of ok_shorten H 2 rfl rfl y
theorem ld_shorten_3 {Q : Value → Shared → Prop} (H : Hp g L h (LV ns_shorten (v0 :: v1 :: v2 :: some v :: r)) news) (y : Q v ⟨h, gs, dr, t, os⟩) : WP w A (eval (.Name (Str.ofString "skip") pos) (env_shorten L)) Q ⟨h, gs, dr, t, os⟩ := ldH_of ok_shorten H 3 rfl rfl y
theorem st_shorten_3 {Q : Unit → Shared → Prop} (H : Hp g L h (LV ns_shorten [v0, v1, v2, v3]) news) (y : ∀ h' t', Hp g L h' (LV ns_shorten [v0, v1, v2, some v]) news → Q () ⟨h', gs, dr, t', os⟩) : WP w A (storeName (env_shorten L) (Str.ofString "skip") v) Q ⟨h, gs, dr, t, os⟩ := stH_of ok_shorten H 3 rfl y
theorem gl_shorten_len {m : Str → Option Value} {Q : Value → Shared → Prop} (B : Bs w g) (H : Hp g L h m news) (y : Q (.builtin "len") ⟨h, gs, dr, t, os⟩) : WP w A (eval (.Name (Str.ofString "len") pos) (env_shorten L)) Q ⟨h, gs, dr, t, os⟩ := e_blt B H (nmB_len _) bbB_len (by decide) y ok_shorten.kind (by kernel_rfl!)
theorem gl_shorten__PLACEHOLDER_LEN {m : Str → Option Value} {Q : Value → Shared → Prop} (B : Bs w g) (H : Hp g L h m news) (y : Q (.int 12 196) ⟨h, gs, dr, t, os⟩) : WP w A (eval (.Name (Str.ofString "_PLACEHOLDER_LEN") pos) (env_shorten L)) Q ⟨h, gs, dr, t, os⟩ := e_glob B H (nmG_hold _) y ok_shorten.kind (by kernel_rfl!)
end
-- mnew
noncomputable def env_mnew (L : Addr) : Env := envOf (Str.ofString "Match.__new__") (scoOf (me 6 4)) L 89 (.ref 88)
noncomputable def ns_mnew : List String := ["_cls", "a", "b", "size"]
theorem ok_mnew : NamesOk ns_mnew (scoOf (me 6 4)) := ⟨by decide, by kernel_rfl!, by kernel_rfl!⟩
section
variable {w : World} {A : Around} {gs : Array GenState} {dr : Drawn} {os : OsState} {g h : Heap} {L : Addr} {t : Nat} {v : Value} {v0 v1 v2 v3 : Option Value} {r : List (Option Value)} {news : List (Addr × Obj)} {pos : Pos}
theorem ld_mnew_0 {Q : Value → Shared → Prop} (H : Hp g L h (LV ns_mnew (some v :: r)) news) (y : Q v ⟨h, gs, dr, t, os⟩) : WP w A (eval (.Name (Str.ofString "_cls") pos) (env_mnew L)) Q ⟨h, gs, dr, t, os⟩ := ldH_of ok_mnew H 0 rfl rfl y
theorem ld_mnew_1 {Q : Value → Shared → Prop} (H : Hp g L h (LV ns_mnew (v0 :: some v :: r)) news) (y : Q v ⟨h, gs, dr, t, os⟩) : WP w A (eval (.Name (Str.ofString "a") pos) (env_mnew L)) Q ⟨h, gs, dr, t, os⟩ := ldH_of ok_mnew H 1 rfl rfl y
theorem ld_mnew_2 {Q : Value → Shared → Prop} (H : Hp g L h (LV ns_mnew (v0 :: v1 :: some v :: r)) news) (y : Q v ⟨h, gs, dr, t, os⟩) : WP w A (eval (.Name (Str.ofString "b") pos) (env_mnew L)) Q ⟨h, gs, dr, t, os⟩ := ldH_of ok_mnew H 2 rfl rfl y
theorem ld_mnew_3 {Q : Value → Shared → Prop} (H : Hp g L h (LV ns_mnew (v0 :: v1 :: v2 :: some v :: r)) news) (y : Q v ⟨h, gs, dr, t, os⟩) : WP w A (eval (.Name (Str.ofString "size") pos) (env_mnew L)) Q ⟨h, gs, dr, t, os⟩ := ldH_of ok_mnew H 3 rfl rfl y
theorem gl_mnew_tuple {m : Str → Option Value} {Q : Value → Shared → Prop} (B : Bs w g) (H : Hp g L h m news) (y : Q (.type "tuple") ⟨h, gs, dr, t, os⟩) : WP w A (eval (.Name (Str.ofString "tuple") pos) (env_mnew L)) Q ⟨h, gs, dr, t, os⟩ := e_blt B H (nmB_tuple _) bbB_tuple (by decide) y ok_mnew.kind (by kernel_rfl!)
end
-- make
noncomputable def env_make (L : Addr) : Env := envOf (Str.ofString "Match._make") (scoOf (me 6 5)) L 96 (.ref 95)
noncomputable def ns_make : List String := ["cls", "iterable", "result"]
theorem ok_make : NamesOk ns_make (scoOf (me 6 5)) := ⟨by decide, by kernel_rfl!, by kernel_rfl!⟩
section
variable {w : World} {A : Around} {gs : Array GenState} {dr : Drawn} {os : OsState} {g h : Heap} {L : Addr} {t : Nat} {v : Value} {v0 v1 v2 : Option Value} {r : List (Option Value)} {news : List (Addr × Obj)} {pos : Pos}
theorem ld_make_0 {Q : Value → Shared → Prop} (H : Hp g L h (LV ns_make (some v :: r)) news) (y : Q v ⟨h, gs, dr, t, os⟩) : WP w A (eval (.Name (Str.ofString "cls") pos) (env_make L)) Q ⟨h, gs, dr, t, os⟩ := ldH_of ok_make H 0 rfl rfl y
theorem ld_make_1 {Q : Value → Shared → Prop} (H : Hp g L h (LV ns_make (v0 :: some v :: r)) news) (y : Q v ⟨h, gs, dr, t, os⟩) : WP w A (eval (.Name (Str.ofString "iterable") pos) (env_make L)) Q ⟨h, gs, dr, t, os⟩ := ldH_of ok_make H 1 rfl rfl y
theorem ld_make_2 {Q : Value → Shared → Prop} (H : Hp g L h (LV ns_make (v0 :: v1 :: some v :: r)) news) (y : Q v ⟨h, gs, dr, t, os⟩) : WP w A (eval (.Name (Str.ofString "result") pos) (env_make L)) Q ⟨h, gs, dr, t, os⟩ := ldH_of ok_make H 2 rfl rfl y
theorem st_make_2 {Q : Unit → Shared → Prop} (H : Hp g L h (LV ns_make [v0, v1, v2]) news) (y : ∀ h' t', Hp g L h' (LV ns_make [v0, v1, some v]) news → Q () ⟨h', gs, dr, t', os⟩) : WP w A (storeName (env_make L) (Str.ofString "result") v) Q ⟨h, gs, dr, t, os⟩ := stH_of ok_make H 2 rfl y
theorem gl_make_tuple {m : Str → Option Value} {Q : Value → Shared → Prop} (B : Bs w g) (H : Hp g L h m news) (y : Q (.type "tuple") ⟨h, gs, dr, t, os⟩) : WP w A (eval (.Name (Str.ofString "tuple") pos) (env_make L)) Q ⟨h, gs, dr, t, os⟩ := e_blt B H (nmB_tuple _) bbB_tuple (by decide) y ok_make.kind (by kernel_rfl!)
theorem gl_make_len {m : Str → Option Value} {Q : Value → Shared → Prop} (B : Bs w g) (H : Hp g L h m news) (y : Q (.builtin "len") ⟨h, gs, dr, t, os⟩) : WP w A (eval (.Name (Str.ofString "len") pos) (env_make L)) Q ⟨h, gs, dr, t, os⟩ := e_blt B H (nmB_len _) bbB_len (by decide) y ok_make.kind (by kernel_rfl!)
end
-- init
noncomputable def env_init (L : Addr) : Env := envOf (Str.ofString "SequenceMatcher.__init__") (scoOf (me 8 1)) L 167 (.ref 166)
noncomputable def ns_init : List String := ["self", "isjunk", "a", "b", "autojunk"]
theorem ok_init : NamesOk ns_init (scoOf (me 8 1)) := ⟨by decide, by kernel_rfl!, by kernel_rfl!⟩
section
variable {w : World} {A : Around} {gs : Array GenState} {dr : Drawn} {os : OsState} {g h : Heap} {L : Addr} {t : Nat} {v : Value} {v0 v1 v2 v3 v4 : Option Value} {r : List (Option Value)} {news : List (Addr × Obj)} {pos : Pos}
theorem ld_init_0 {Q : Value → Shared → Prop} (H : Hp g L h (LV ns_init (some v :: r)) news) (y : Q v ⟨h, gs, dr, t, os⟩) : WP w A (eval (.Name (Str.ofString "self") pos) (env_init L)) Q ⟨h, gs, dr, t, os⟩ := ldH_of ok_init H 0 rfl rfl y
theorem ld_init_1 {Q : Value → Shared → Prop} (H : Hp g L h (LV ns_init (v0 :: some v :: r)) news) (y : Q v ⟨h, gs, dr, t, os⟩) : WP w A (eval (.Name (Str.ofString "isjunk") pos) (env_init L)) Q ⟨h, gs, dr, t, os⟩ := ldH_of ok_init H 1 rfl rfl y
theorem ld_init_2 {Q : Value → Shared → Prop} (H : Hp g L h (LV ns_init (v0 :: v1 :: some v :: r)) news) (y : Q v ⟨h, gs, dr, t, os⟩) : WP w A (eval (.Name (Str.ofString "a") pos) (env_init L)) Q ⟨h, gs, dr, t, os⟩ := ldH_of ok_init H 2 rfl rfl y
theorem ld_init_3 {Q : Value → Shared → Prop} (H : Hp g L h (LV ns_init (v0 :: v1 :: v2 :: some v :: r)) news) (y : Q v ⟨h, gs, dr, t, os⟩) : WP w A (eval (.Name (Str.ofString "b") pos) (env_init L)) Q ⟨h, gs, dr, t, os⟩ := ldH_of ok_init H 3 rfl rfl y
theorem ld_init_4 {Q : Value → Shared → Prop} (H : Hp g L h (LV ns_init (v0 :: v1 :: v2 :: v3 :: some v :: r)) news) (y : Q v ⟨h, gs, dr, t, os⟩) : WP w A (eval (.Name (Str.ofString "autojunk") pos) (env_init L)) Q ⟨h, gs, dr, t, os⟩ := ldH_of ok_init H 4 rfl rfl y
end
-- seqs
noncomputable def env_seqs (L : Addr) : Env := envOf (Str.ofString "SequenceMatcher.set_seqs") (scoOf (me 8 2)) L 174 (.ref 173)
noncomputable def ns_seqs : List String := ["self", "a", "b"]
theorem ok_seqs : NamesOk ns_seqs (scoOf (me 8 2)) := ⟨by decide, by kernel_rfl!, by kernel_rfl!⟩
section
variable {w : World} {A : Around} {gs : Array GenState} {dr : Drawn} {os : OsState} {g h : Heap} {L : Addr} {t : Nat} {v : Value} {v0 v1 v2 : Option Value} {r : List (Option Value)} {news : List (Addr × Obj)} {pos : Pos}
theorem ld_seqs_0 {Q : Value → Shared → Prop} (H : Hp g L h (LV ns_seqs (some v :: r)) news) (y : Q v ⟨h, gs, dr, t, os⟩) : WP w A (eval (.Name (Str.ofString "self") pos) (env_seqs L)) Q ⟨h, gs, dr, t, os⟩ := ldH_of ok_seqs H 0 rfl rfl y
theorem ld_seqs_1 {Q : Value → Shared → Prop} (H : Hp g L h (LV ns_seqs (v0 :: some v :: r)) news) (y : Q v ⟨h, gs, dr, t, os⟩) : WP w A (eval (.Name (Str.ofString "a") pos) (env_seqs L)) Q ⟨h, gs, dr, t, os⟩ := ldH_of ok_seqs H 1 rfl rfl y
theorem ld_seqs_2 {Q : Value → Shared → Prop} (H : Hp g L h (LV ns_seqs (v0 :: v1 :: some v :: r)) news) (y : Q v ⟨h, gs, dr, t, os⟩) : WP w A (eval (.Name (Str.ofString "b") pos) (env_seqs L)) Q ⟨h, gs, dr, t, os⟩ := ldH_of ok_seqs H 2 rfl rfl y
end
-- seq1
noncomputable def env_seq1 (L : Addr) : Env := envOf (Str.ofString "SequenceMatcher.set_seq1") (scoOf (me 8 3)) L 181 (.ref 180)
noncomputable def ns_seq1 : List String := ["self", "a"]
theorem ok_seq1 : NamesOk ns_seq1 (scoOf (me 8 3)) := ⟨by decide, by kernel_rfl!, by kernel_rfl!⟩
section
variable {w : World} {A : Around} {gs : Array GenState} {dr : Drawn} {os : OsState} {g h : Heap} {L : Addr} {t : Nat} {v : Value} {v0 v1 : Option Value} {r : List (Option Value)} {news : List (Addr × Obj)} {pos : Pos}
theorem ld_seq1_0 {Q : Value → Shared → Prop} (H : Hp g L h (LV ns_seq1 (some v :: r)) news) (y : Q v ⟨h, gs, dr, t, os⟩) : WP w A (eval (.Name (Str.ofString "self") pos) (env_seq1 L)) Q ⟨h, gs, dr, t, os⟩ := ldH_of ok_seq1 H 0 rfl rfl y
theorem ld_seq1_1 {Q : Value → Shared → Prop} (H : Hp g L h (LV ns_seq1 (v0 :: some v :: r)) news) (y : Q v ⟨h, gs, dr, t, os⟩) : WP w A (eval (.Name (Str.ofString "a") pos) (env_seq1 L)) Q ⟨h, gs, dr, t, os⟩ := ldH_of ok_seq1 H 1 rfl rfl y
end
-- seq2
noncomputable def env_seq2 (L : Addr) : Env := envOf (Str.ofString "SequenceMatcher.set_seq2") (scoOf (me 8 4)) L 188 (.ref 187)
noncomputable def ns_seq2 : List String := ["self", "b"]
theorem ok_seq2 : NamesOk ns_seq2 (scoOf (me 8 4)) := ⟨by decide, by kernel_rfl!, by kernel_rfl!⟩
section
variable {w : World} {A : Around} {gs : Array GenState} {dr : Drawn} {os : OsState} {g h : Heap} {L : Addr} {t : Nat} {v : Value} {v0 v1 : Option Value} {r : List (Option Value)} {news : List (Addr × Obj)} {pos : Pos}
theorem ld_seq2_0 {Q : Value → Shared → Prop} (H : Hp g L h (LV ns_seq2 (some v :: r)) news) (y : Q v ⟨h, gs, dr, t, os⟩) : WP w A (eval (.Name (Str.ofString "self") pos) (env_seq2 L)) Q ⟨h, gs, dr, t, os⟩ := ldH_of ok_seq2 H 0 rfl rfl y
theorem ld_seq2_1 {Q : Value → Shared → Prop} (H : Hp g L h (LV ns_seq2 (v0 :: some v :: r)) news) (y : Q v ⟨h, gs, dr, t, os⟩) : WP w A (eval (.Name (Str.ofString "b") pos) (env_seq2 L)) Q ⟨h, gs, dr, t, os⟩ := ldH_of ok_seq2 H 1 rfl rfl y
end
-- chain
noncomputable def env_chain (L : Addr) : Env := envOf (Str.ofString "SequenceMatcher.__chain_b") (scoOf (me 8 5)) L 195 (.ref 194)
noncomputable def ns_chain : List String := ["self", "b", "b2j", "i", "elt", "indices", "junk", "isjunk", "popular", "n", "ntest", "idxs"]
theorem ok_chain : NamesOk ns_chain (scoOf (me 8 5)) := ⟨by decide, by kernel_rfl!, by kernel_rfl!⟩
section
variable {w : World} {A : Around} {gs : Array GenState} {dr : Drawn} {os : OsState} {g h : Heap} {L : Addr} {t : Nat} {v : Value} {v0 v1 v2 v3 v4 v5 v6 v7 v8 v9 v10 v11 : Option Value} {r : List (Option Value)} {news : List (Addr × Obj)} {pos : Pos}
theorem ld_chain_0 {Q : Value → Shared → Prop} (H : Hp g L h (LV ns_chain (some v :: r)) news) (y : Q v ⟨h, gs, dr, t, os⟩) : WP w A (eval (.Name (Str.ofString "self") pos) (env_chain L)) Q ⟨h, gs, dr, t, os⟩ := ldH_of ok_chain H 0 rfl rfl y
theorem ld_chain_1 {Q : Value → Shared → Prop} (H : Hp g L h (LV ns_chain (v0 :: some v :: r)) news) (y : Q v ⟨h, gs, dr, t, os⟩) : WP w A (eval (.Name (Str.ofString "b") pos) (env_chain L)) Q ⟨h, gs, dr, t, os⟩ := ldH_of ok_chain H 1 rfl rfl y
theorem st_chain_1 {Q : Unit → Shared → Prop} (H : Hp g L h (LV ns_chain [v0, v1, v2, v3, v4, v5, v6, v7, v8, v9, v10, v11]) news) (y : ∀ h' t', Hp g L h' (LV ns_chain [v0, some v, v2, v3, v4, v5, v6, v7, v8, v9, v10, v11]) news → Q () ⟨h', gs, dr, t', os⟩) : WP w A (storeName (env_chain L) (Str.ofString "b") v) Q ⟨h, gs, dr, t, os⟩ := stH_of ok_chain H 1 rfl y
theorem ld_chain_2 {Q : Value → Shared → Prop} (H : Hp g L h (LV ns_chain (v0 :: v1 :: some v :: r)) news) (y : Q v ⟨h, gs, dr, t, os⟩) : WP w A (eval (.Name (Str.ofString "b2j") pos) (env_chain L)) Q ⟨h, gs, dr, t, os⟩ := ldH_of ok_chain H 2 rfl rfl y
theorem st_chain_2 {Q : Unit → Shared → Prop} (H : Hp g L h (LV ns_chain [v0, v1, v2, v3, v4, v5, v6, v7, v8, v9, v10, v11]) news) (y : ∀ h' t', Hp g L h' (LV ns_chain [v0, v1, some v, v3, v4, v5, v6, v7, v8, v9, v10, v11]) news → Q () ⟨h', gs, dr, t', os⟩) : WP w A (storeName (env_chain L) (Str.ofString "b2j") v) Q ⟨h, gs, dr, t, os⟩ := stH_of ok_chain H 2 rfl y
theorem ld_chain_3 {Q : Value → Shared → Prop} (H : Hp g L h (LV ns_chain (v0 :: v1 :: v2 :: some v :: r)) news) (y : Q v ⟨h, gs, dr, t, os⟩) : WP w A (eval (.Name (Str.ofString "i") pos) (env_chain L)) Q ⟨h, gs, dr, t, os⟩ := ldH_of ok_chain H 3 rfl rfl y
theorem st_chain_3 {Q : Unit → Shared → Prop} (H : Hp g L h (LV ns_chain [v0, v1, v2, v3, v4, v5, v6, v7, v8, v9, v10, v11]) news) (y : ∀ h' t', Hp g L h' (LV ns_chain [v0, v1, v2, some v, v4, v5, v6, v7, v8, v9, v10, v11]) news → Q () ⟨h', gs, dr, t', os⟩) : WP w A (storeName (env_chain L) (Str.ofString "i") v) Q ⟨h, gs, dr, t, os⟩ := stH_of ok_chain H 3 rfl y
theorem ld_chain_4 {Q : Value → Shared → Prop} (H : Hp g L h (LV ns_chain (v0 :: v1 :: v2 :: v3 :: some v :: r)) news) (y : Q v ⟨h, gs, dr, t, os⟩) : WP w A (eval (.Name (Str.ofString "elt") pos) (env_chain L)) Q ⟨h, gs, dr, t, os⟩ := ldH_of ok_chain H 4 rfl rfl y
theorem st_chain_4 {Q : Unit → Shared → Prop} (H : Hp g L h (LV ns_chain [v0, v1, v2, v3, v4, v5, v6, v7, v8, v9, v10, v11]) news) (y : ∀ h' t', Hp g L h' (LV ns_chain [v0, v1, v2, v3, some v, v5, v6, v7, v8, v9, v10, v11]) news → Q () ⟨h', gs, dr, t', os⟩) : WP w A (storeName (env_chain L) (Str.ofString "elt") v) Q ⟨h, gs, dr, t, os⟩ := stH_of ok_chain H 4 rfl y
theorem ld_chain_5 {Q : Value → Shared → Prop} (H : Hp g L h (LV ns_chain (v0 :: v1 :: v2 :: v3 :: v4 :: some v :: r)) news) (y : Q v ⟨h, gs, dr, t, os⟩) : WP w A (eval (.Name (Str.ofString "indices") pos) (env_chain L)) Q ⟨h, gs, dr, t, os⟩ := ldH_of ok_chain H 5 rfl rfl y
theorem st_chain_5 {Q : Unit → Shared → Prop} (H : Hp g L h (LV ns_chain [v0, v1, v2, v3, v4, v5, v6, v7, v8, v9, v10, v11]) news) (y : ∀ h' t', Hp g L h' (LV ns_chain [v0, v1, v2, v3, v4, some v, v6, v7, v8, v9, v10, v11]) news → Q () ⟨h', gs, dr, t', os⟩) : WP w A (storeName (env_chain L) (Str.ofString "indices") v) Q ⟨h, gs, dr, t, os⟩ := stH_of ok_chain H 5 rfl y
theorem st_chain_6 {Q : Unit → Shared → Prop} (H : Hp g L h (LV ns_chain [v0, v1, v2, v3, v4, v5, v6, v7, v8, v9, v10, v11]) news) (y : ∀ h' t', Hp g L h' (LV ns_chain [v0, v1, v2, v3, v4, v5, some v, v7, v8, v9, v10, v11]) news → Q () ⟨h', gs, dr, t', os⟩) : WP w A (storeName (env_chain L) (Str.ofString "junk") v) Q ⟨h, gs, dr, t, os⟩ := stH_of ok_chain H 6 rfl y
theorem ld_chain_7 {Q : Value → Shared → Prop} (H : Hp g L h (LV ns_chain (v0 :: v1 :: v2 :: v3 :: v4 :: v5 :: v6 :: some v :: r)) news) (y : Q v ⟨h, gs, dr, t, os⟩) : WP w A (eval (.Name (Str.ofString "isjunk") pos) (env_chain L)) Q ⟨h, gs, dr, t, os⟩ := ldH_of ok_chain H 7 rfl rfl y
theorem st_chain_7 {Q : Unit → Shared → Prop} (H : Hp g L h (LV ns_chain [v0, v1, v2, v3, v4, v5, v6, v7, v8, v9, v10, v11]) news) (y : ∀ h' t', Hp g L h' (LV ns_chain [v0, v1, v2, v3, v4, v5, v6, some v, v8, v9, v10, v11]) news → Q () ⟨h', gs, dr, t', os⟩) : WP w A (storeName (env_chain L) (Str.ofString "isjunk") v) Q ⟨h, gs, dr, t, os⟩ := stH_of ok_chain H 7 rfl y
theorem st_chain_8 {Q : Unit → Shared → Prop} (H : Hp g L h (LV ns_chain [v0, v1, v2, v3, v4, v5, v6, v7, v8, v9, v10, v11]) news) (y : ∀ h' t', Hp g L h' (LV ns_chain [v0, v1, v2, v3, v4, v5, v6, v7, some v, v9, v10, v11]) news → Q () ⟨h', gs, dr, t', os⟩) : WP w A (storeName (env_chain L) (Str.ofString "popular") v) Q ⟨h, gs, dr, t, os⟩ := stH_of ok_chain H 8 rfl y
theorem st_chain_9 {Q : Unit → Shared → Prop} (H : Hp g L h (LV ns_chain [v0, v1, v2, v3, v4, v5, v6, v7, v8, v9, v10, v11]) news) (y : ∀ h' t', Hp g L h' (LV ns_chain [v0, v1, v2, v3, v4, v5, v6, v7, v8, some v, v10, v11]) news → Q () ⟨h', gs, dr, t', os⟩) : WP w A (storeName (env_chain L) (Str.ofString "n") v) Q ⟨h, gs, dr, t, os⟩ := stH_of ok_chain H 9 rfl y
theorem gl_chain_enumerate {m : Str → Option Value} {Q : Value → Shared → Prop} (B : Bs w g) (H : Hp g L h m news) (y : Q (.type "enumerate") ⟨h, gs, dr, t, os⟩) : WP w A (eval (.Name (Str.ofString "enumerate") pos) (env_chain L)) Q ⟨h, gs, dr, t, os⟩ := e_blt B H (nmB_enumerate _) bbB_enumerate (by decide) y ok_chain.kind (by kernel_rfl!)
theorem gl_chain_set {m : Str → Option Value} {Q : Value → Shared → Prop} (B : Bs w g) (H : Hp g L h m news) (y : Q (.type "set") ⟨h, gs, dr, t, os⟩) : WP w A (eval (.Name (Str.ofString "set") pos) (env_chain L)) Q ⟨h, gs, dr, t, os⟩ := e_blt B H (nmB_set _) bbB_set (by decide) y ok_chain.kind (by kernel_rfl!)
theorem gl_chain_len {m : Str → Option Value} {Q : Value → Shared → Prop} (B : Bs w g) (H : Hp g L h m news) (y : Q (.builtin "len") ⟨h, gs, dr, t, os⟩) : WP w A (eval (.Name (Str.ofString "len") pos) (env_chain L)) Q ⟨h, gs, dr, t, os⟩ := e_blt B H (nmB_len _) bbB_len (by decide) y ok_chain.kind (by kernel_rfl!)
end
-- flm
noncomputable def env_flm (L : Addr) : Env := envOf (Str.ofString "SequenceMatcher.find_longest_match") (scoOf (me 8 6)) L 203 (.ref 202)
noncomputable def ns_flm : List String := ["self", "alo", "ahi", "blo", "bhi", "a", "b", "b2j", "isbjunk", "besti", "bestj", "bestsize", "j2len", "nothing", "i", "j2lenget", "newj2len", "j", "k"]
theorem ok_flm : NamesOk ns_flm (scoOf (me 8 6)) := ⟨by decide, by kernel_rfl!, by kernel_rfl!⟩
section
variable {w : World} {A : Around} {gs : Array GenState} {dr : Drawn} {os : OsState} {g h : Heap} {L : Addr} {t : Nat} {v : Value} {v0 v1 v2 v3 v4 v5 v6 v7 v8 v9 v10 v11 v12 v13 v14 v15 v16 v17 v18 : Option Value} {r : List (Option Value)} {news : List (Addr × Obj)} {pos : Pos}
theorem ld_flm_0 {Q : Value → Shared → Prop} (H : Hp g L h (LV ns_flm (some v :: r)) news) (y : Q v ⟨h, gs, dr, t, os⟩) : WP w A (eval (.Name (Str.ofString "self") pos) (env_flm L)) Q ⟨h, gs, dr, t, os⟩ := ldH_of ok_flm H 0 rfl rfl y
theorem ld_flm_1 {Q : Value → Shared → Prop} (H : Hp g L h (LV ns_flm (v0 :: some v :: r)) news) (y : Q v ⟨h, gs, dr, t, os⟩) : WP w A (eval (.Name (Str.ofString "alo") pos) (env_flm L)) Q ⟨h, gs, dr, t, os⟩ := ldH_of ok_flm H 1 rfl rfl y
theorem ld_flm_2 {Q : Value → Shared → Prop} (H : Hp g L h (LV ns_flm (v0 :: v1 :: some v :: r)) news) (y : Q v ⟨h, gs, dr, t, os⟩) : WP w A (eval (.Name (Str.ofString "ahi") pos) (env_flm L)) Q ⟨h, gs, dr, t, os⟩ := ldH_of ok_flm H 2 rfl rfl y
theorem ld_flm_3 {Q : Value → Shared → Prop} (H : Hp g L h (LV ns_flm (v0 :: v1 :: v2 :: some v :: r)) news) (y : Q v ⟨h, gs, dr, t, os⟩) : WP w A (eval (.Name (Str.ofString "blo") pos) (env_flm L)) Q ⟨h, gs, dr, t, os⟩ := ldH_of ok_flm H 3 rfl rfl y
theorem ld_flm_4 {Q : Value → Shared → Prop} (H : Hp g L h (LV ns_flm (v0 :: v1 :: v2 :: v3 :: some v :: r)) news) (y : Q v ⟨h, gs, dr, t, os⟩) : WP w A (eval (.Name (Str.ofString "bhi") pos) (env_flm L)) Q ⟨h, gs, dr, t, os⟩ := ldH_of ok_flm H 4 rfl rfl y
theorem ld_flm_5 {Q : Value → Shared → Prop} (H : Hp g L h (LV ns_flm (v0 :: v1 :: v2 :: v3 :: v4 :: some v :: r)) news) (y : Q v ⟨h, gs, dr, t, os⟩) : WP w A (eval (.Name (Str.ofString "a") pos) (env_flm L)) Q ⟨h, gs, dr, t, os⟩ := ldH_of ok_flm H 5 rfl rfl y
theorem st_flm_5 {Q : Unit → Shared → Prop} (H : Hp g L h (LV ns_flm [v0, v1, v2, v3, v4, v5, v6, v7, v8, v9, v10, v11, v12, v13, v14, v15, v16, v17, v18]) news) (y : ∀ h' t', Hp g L h' (LV ns_flm [v0, v1, v2, v3, v4, some v, v6, v7, v8, v9, v10, v11, v12, v13, v14, v15, v16, v17, v18]) news → Q () ⟨h', gs, dr, t', os⟩) : WP w A (storeName (env_flm L) (Str.ofString "a") v) Q ⟨h, gs, dr, t, os⟩ := stH_of ok_flm H 5 rfl y
theorem ld_flm_6 {Q : Value → Shared → Prop} (H : Hp g L h (LV ns_flm (v0 :: v1 :: v2 :: v3 :: v4 :: v5 :: some v :: r)) news) (y : Q v ⟨h, gs, dr, t, os⟩) : WP w A (eval (.Name (Str.ofString "b") pos) (env_flm L)) Q ⟨h, gs, dr, t, os⟩ := ldH_of ok_flm H 6 rfl rfl y
theorem st_flm_6 {Q : Unit → Shared → Prop} (H : Hp g L h (LV ns_flm [v0, v1, v2, v3, v4, v5, v6, v7, v8, v9, v10, v11, v12, v13, v14, v15, v16, v17, v18]) news) (y : ∀ h' t', Hp g L h' (LV ns_flm [v0, v1, v2, v3, v4, v5, some v, v7, v8, v9, v10, v11, v12, v13, v14, v15, v16, v17, v18]) news → Q () ⟨h', gs, dr, t', os⟩) : WP w A (storeName (env_flm L) (Str.ofString "b") v) Q ⟨h, gs, dr, t, os⟩ := stH_of ok_flm H 6 rfl y
theorem ld_flm_7 {Q : Value → Shared → Prop} (H : Hp g L h (LV ns_flm (v0 :: v1 :: v2 :: v3 :: v4 :: v5 :: v6 :: some v :: r)) news) (y : Q v ⟨h, gs, dr, t, os⟩) : WP w A (eval (.Name (Str.ofString "b2j") pos) (env_flm L)) Q ⟨h, gs, dr, t, os⟩ := ldH_of ok_flm H 7 rfl rfl y
theorem st_flm_7 {Q : Unit → Shared → Prop} (H : Hp g L h (LV ns_flm [v0, v1, v2, v3, v4, v5, v6, v7, v8, v9, v10, v11, v12, v13, v14, v15, v16, v17, v18]) news) (y : ∀ h' t', Hp g L h' (LV ns_flm [v0, v1, v2, v3, v4, v5, v6, some v, v8, v9, v10, v11, v12, v13, v14, v15, v16, v17, v18]) news → Q () ⟨h', gs, dr, t', os⟩) : WP w A (storeName (env_flm L) (Str.ofString "b2j") v) Q ⟨h, gs, dr, t, os⟩ := stH_of ok_flm H 7 rfl y
theorem ld_flm_8 {Q : Value → Shared → Prop} (H : Hp g L h (LV ns_flm (v0 :: v1 :: v2 :: v3 :: v4 :: v5 :: v6 :: v7 :: some v :: r)) news) (y : Q v ⟨h, gs, dr, t, os⟩) : WP w A (eval (.Name (Str.ofString "isbjunk") pos) (env_flm L)) Q ⟨h, gs, dr, t, os⟩ := ldH_of ok_flm H 8 rfl rfl y
theorem st_flm_8 {Q : Unit → Shared → Prop} (H : Hp g L h (LV ns_flm [v0, v1, v2, v3, v4, v5, v6, v7, v8, v9, v10, v11, v12, v13, v14, v15, v16, v17, v18]) news) (y : ∀ h' t', Hp g L h' (LV ns_flm [v0, v1, v2, v3, v4, v5, v6, v7, some v, v9, v10, v11, v12, v13, v14, v15, v16, v17, v18]) news → Q () ⟨h', gs, dr, t', os⟩) : WP w A (storeName (env_flm L) (Str.ofString "isbjunk") v) Q ⟨h, gs, dr, t, os⟩ := stH_of ok_flm H 8 rfl y
theorem ld_flm_9 {Q : Value → Shared → Prop} (H : Hp g L h (LV ns_flm (v0 :: v1 :: v2 :: v3 :: v4 :: v5 :: v6 :: v7 :: v8 :: some v :: r)) news) (y : Q v ⟨h, gs, dr, t, os⟩) : WP w A (eval (.Name (Str.ofString "besti") pos) (env_flm L)) Q ⟨h, gs, dr, t, os⟩ := ldH_of ok_flm H 9 rfl rfl y
theorem st_flm_9 {Q : Unit → Shared → Prop} (H : Hp g L h (LV ns_flm [v0, v1, v2, v3, v4, v5, v6, v7, v8, v9, v10, v11, v12, v13, v14, v15, v16, v17, v18]) news) (y : ∀ h' t', Hp g L h' (LV ns_flm [v0, v1, v2, v3, v4, v5, v6, v7, v8, some v, v10, v11, v12, v13, v14, v15, v16, v17, v18]) news → Q () ⟨h', gs, dr, t', os⟩) : WP w A (storeName (env_flm L) (Str.ofString "besti") v) Q ⟨h, gs, dr, t, os⟩ := stH_of ok_flm H 9 rfl y
theorem ld_flm_10 {Q : Value → Shared → Prop} (H : Hp g L h (LV ns_flm (v0 :: v1 :: v2 :: v3 :: v4 :: v5 :: v6 :: v7 :: v8 :: v9 :: some v :: r)) news) (y : Q v ⟨h, gs, dr, t, os⟩) : WP w A (eval (.Name (Str.ofString "bestj") pos) (env_flm L)) Q ⟨h, gs, dr, t, os⟩ := ldH_of ok_flm H 10 rfl rfl y
theorem st_flm_10 {Q : Unit → Shared → Prop} (H : Hp g L h (LV ns_flm [v0, v1, v2, v3, v4, v5, v6, v7, v8, v9, v10, v11, v12, v13, v14, v15, v16, v17, v18]) news) (y : ∀ h' t', Hp g L h' (LV ns_flm [v0, v1, v2, v3, v4, v5, v6, v7, v8, v9, some v, v11, v12, v13, v14, v15, v16, v17, v18]) news → Q () ⟨h', gs, dr, t', os⟩) : WP w A (storeName (env_flm L) (Str.ofString "bestj") v) Q ⟨h, gs, dr, t, os⟩ := stH_of ok_flm H 10 rfl y
theorem ld_flm_11 {Q : Value → Shared → Prop} (H : Hp g L h (LV ns_flm (v0 :: v1 :: v2 :: v3 :: v4 :: v5 :: v6 :: v7 :: v8 :: v9 :: v10 :: some v :: r)) news) (y : Q v ⟨h, gs, dr, t, os⟩) : WP w A (eval (.Name (Str.ofString "bestsize") pos) (env_flm L)) Q ⟨h, gs, dr, t, os⟩ := ldH_of ok_flm H 11 rfl rfl y
theorem st_flm_11 {Q : Unit → Shared → Prop} (H : Hp g L h (LV ns_flm [v0, v1, v2, v3, v4, v5, v6, v7, v8, v9, v10, v11, v12, v13, v14, v15, v16, v17, v18]) news) (y : ∀ h' t', Hp g L h' (LV ns_flm [v0, v1, v2, v3, v4, v5, v6, v7, v8, v9, v10, some v, v12, v13, v14, v15, v16, v17, v18]) news → Q () ⟨h', gs, dr, t', os⟩) : WP w A (storeName (env_flm L) (Str.ofString "bestsize") v) Q ⟨h, gs, dr, t, os⟩ := stH_of ok_flm H 11 rfl y
theorem ld_flm_12 {Q : Value → Shared → Prop} (H : Hp g L h (LV ns_flm (v0 :: v1 :: v2 :: v3 :: v4 :: v5 :: v6 :: v7 :: v8 :: v9 :: v10 :: v11 :: some v :: r)) news) (y : Q v ⟨h, gs, dr, t, os⟩) : WP w A (eval (.Name (Str.ofString "j2len") pos) (env_flm L)) Q ⟨h, gs, dr, t, os⟩ := ldH_of ok_flm H 12 rfl rfl y
theorem st_flm_12 {Q : Unit → Shared → Prop} (H : Hp g L h (LV ns_flm [v0, v1, v2, v3, v4, v5, v6, v7, v8, v9, v10, v11, v12, v13, v14, v15, v16, v17, v18]) news) (y : ∀ h' t', Hp g L h' (LV ns_flm [v0, v1, v2, v3, v4, v5, v6, v7, v8, v9, v10, v11, some v, v13, v14, v15, v16, v17, v18]) news → Q () ⟨h', gs, dr, t', os⟩) : WP w A (storeName (env_flm L) (Str.ofString "j2len") v) Q ⟨h, gs, dr, t, os⟩ := stH_of ok_flm H 12 rfl y
theorem ld_flm_13 {Q : Value → Shared → Prop} (H : Hp g L h (LV ns_flm (v0 :: v1 :: v2 :: v3 :: v4 :: v5 :: v6 :: v7 :: v8 :: v9 :: v10 :: v11 :: v12 :: some v :: r)) news) (y : Q v ⟨h, gs, dr, t, os⟩) : WP w A (eval (.Name (Str.ofString "nothing") pos) (env_flm L)) Q ⟨h, gs, dr, t, os⟩ := ldH_of ok_flm H 13 rfl rfl y
theorem st_flm_13 {Q : Unit → Shared → Prop} (H : Hp g L h (LV ns_flm [v0, v1, v2, v3, v4, v5, v6, v7, v8, v9, v10, v11, v12, v13, v14, v15, v16, v17, v18]) news) (y : ∀ h' t', Hp g L h' (LV ns_flm [v0, v1, v2, v3, v4, v5, v6, v7, v8, v9, v10, v11, v12, some v, v14, v15, v16, v17, v18]) news → Q () ⟨h', gs, dr, t', os⟩) : WP w A (storeName (env_flm L) (Str.ofString "nothing") v) Q ⟨h, gs, dr, t, os⟩ := stH_of ok_flm H 13 rfl y
theorem ld_flm_14 {Q : Value → Shared → Prop} (H : Hp g L h (LV ns_flm (v0 :: v1 :: v2 :: v3 :: v4 :: v5 :: v6 :: v7 :: v8 :: v9 :: v10 :: v11 :: v12 :: v13 :: some v :: r)) news) (y : Q v ⟨h, gs, dr, t, os⟩) : WP w A (eval (.Name (Str.ofString "i") pos) (env_flm L)) Q ⟨h, gs, dr, t, os⟩ := ldH_of ok_flm H 14 rfl rfl y
theorem st_flm_14 {Q : Unit → Shared → Prop} (H : Hp g L h (LV ns_flm [v0, v1, v2, v3, v4, v5, v6, v7, v8, v9, v10, v11, v12, v13, v14, v15, v16, v17, v18]) news) (y : ∀ h' t', Hp g L h' (LV ns_flm [v0, v1, v2, v3, v4, v5, v6, v7, v8, v9, v10, v11, v12, v13, some v, v15, v16, v17, v18]) news → Q () ⟨h', gs, dr, t', os⟩) : WP w A (storeName (env_flm L) (Str.ofString "i") v) Q ⟨h, gs, dr, t, os⟩ := stH_of ok_flm H 14 rfl y
theorem ld_flm_15 {Q : Value → Shared → Prop} (H : Hp g L h (LV ns_flm (v0 :: v1 :: v2 :: v3 :: v4 :: v5 :: v6 :: v7 :: v8 :: v9 :: v10 :: v11 :: v12 :: v13 :: v14 :: some v :: r)) news) (y : Q v ⟨h, gs, dr, t, os⟩) : WP w A (eval (.Name (Str.ofString "j2lenget") pos) (env_flm L)) Q ⟨h, gs, dr, t, os⟩ := ldH_of ok_flm H 15 rfl rfl y
theorem st_flm_15 {Q : Unit → Shared → Prop} (H : Hp g L h (LV ns_flm [v0, v1, v2, v3, v4, v5, v6, v7, v8, v9, v10, v11, v12, v13, v14, v15, v16, v17, v18]) news) (y : ∀ h' t', Hp g L h' (LV ns_flm [v0, v1, v2, v3, v4, v5, v6, v7, v8, v9, v10, v11, v12, v13, v14, some v, v16, v17, v18]) news → Q () ⟨h', gs, dr, t', os⟩) : WP w A (storeName (env_flm L) (Str.ofString "j2lenget") v) Q ⟨h, gs, dr, t, os⟩ := stH_of ok_flm H 15 rfl y
theorem ld_flm_16 {Q : Value → Shared → Prop} (H : Hp g L h (LV ns_flm (v0 :: v1 :: v2 :: v3 :: v4 :: v5 :: v6 :: v7 :: v8 :: v9 :: v10 :: v11 :: v12 :: v13 :: v14 :: v15 :: some v :: r)) news) (y : Q v ⟨h, gs, dr, t, os⟩) : WP w A (eval (.Name (Str.ofString "newj2len") pos) (env_flm L)) Q ⟨h, gs, dr, t, os⟩ := ldH_of ok_flm H 16 rfl rfl y
theorem st_flm_16 {Q : Unit → Shared → Prop} (H : Hp g L h (LV ns_flm [v0, v1, v2, v3, v4, v5, v6, v7, v8, v9, v10, v11, v12, v13, v14, v15, v16, v17, v18]) news) (y : ∀ h' t', Hp g L h' (LV ns_flm [v0, v1, v2, v3, v4, v5, v6, v7, v8, v9, v10, v11, v12, v13, v14, v15, some v, v17, v18]) news → Q () ⟨h', gs, dr, t', os⟩) : WP w A (storeName (env_flm L) (Str.ofString "newj2len") v) Q ⟨h, gs, dr, t, os⟩ := stH_of ok_flm H 16 rfl y
theorem ld_flm_17 {Q : Value → Shared → Prop} (H : Hp g L h (LV ns_flm (v0 :: v1 :: v2 :: v3 :: v4 :: v5 :: v6 :: v7 :: v8 :: v9 :: v10 :: v11 :: v12 :: v13 :: v14 :: v15 :: v16 :: some v :: r)) news) (y : Q v ⟨h, gs, dr, t, os⟩) : WP w A (eval (.Name (Str.ofString "j") pos) (env_flm L)) Q ⟨h, gs, dr, t, os⟩ := ldH_of ok_flm H 17 rfl rfl y
theorem st_flm_17 {Q : Unit → Shared → Prop} (H : Hp g L h (LV ns_flm [v0, v1, v2, v3, v4, v5, v6, v7, v8, v9, v10, v11, v12, v13, v14, v15, v16, v17, v18]) news) (y : ∀ h' t', Hp g L h' (LV ns_flm [v0, v1, v2, v3, v4, v5, v6, v7, v8, v9, v10, v11, v12, v13, v14, v15, v16, some v, v18]) news → Q () ⟨h', gs, dr, t', os⟩) : WP w A (storeName (env_flm L) (Str.ofString "j") v) Q ⟨h, gs, dr, t, os⟩ := stH_of ok_flm H 17 rfl y
theorem ld_flm_18 {Q : Value → Shared → Prop} (H : Hp g L h (LV ns_flm (v0 :: v1 :: v2 :: v3 :: v4 :: v5 :: v6 :: v7 :: v8 :: v9 :: v10 :: v11 :: v12 :: v13 :: v14 :: v15 :: v16 :: v17 :: some v :: r)) news) (y : Q v ⟨h, gs, dr, t, os⟩) : WP w A (eval (.Name (Str.ofString "k") pos) (env_flm L)) Q ⟨h, gs, dr, t, os⟩ := ldH_of ok_flm H 18 rfl rfl y
theorem st_flm_18 {Q : Unit → Shared → Prop} (H : Hp g L h (LV ns_flm [v0, v1, v2, v3, v4, v5, v6, v7, v8, v9, v10, v11, v12, v13, v14, v15, v16, v17, v18]) news) (y : ∀ h' t', Hp g L h' (LV ns_flm [v0, v1, v2, v3, v4, v5, v6, v7, v8, v9, v10, v11, v12, v13, v14, v15, v16, v17, some v]) news → Q () ⟨h', gs, dr, t', os⟩) : WP w A (storeName (env_flm L) (Str.ofString "k") v) Q ⟨h, gs, dr, t, os⟩ := stH_of ok_flm H 18 rfl y
theorem gl_flm_range {m : Str → Option Value} {Q : Value → Shared → Prop} (B : Bs w g) (H : Hp g L h m news) (y : Q (.type "range") ⟨h, gs, dr, t, os⟩) : WP w A (eval (.Name (Str.ofString "range") pos) (env_flm L)) Q ⟨h, gs, dr, t, os⟩ := e_blt B H (nmB_range _) bbB_range (by decide) y ok_flm.kind (by kernel_rfl!)
theorem gl_flm_Match {m : Str → Option Value} {Q : Value → Shared → Prop} (B : Bs w g) (H : Hp g L h m news) (y : Q (.ref 142) ⟨h, gs, dr, t, os⟩) : WP w A (eval (.Name (Str.ofString "Match") pos) (env_flm L)) Q ⟨h, gs, dr, t, os⟩ := e_glob B H (nmG_Match _) y ok_flm.kind (by kernel_rfl!)
end
-- gmb
noncomputable def env_gmb (L : Addr) : Env := envOf (Str.ofString "SequenceMatcher.get_matching_blocks") (scoOf (me 8 7)) L 210 (.ref 209)
noncomputable def ns_gmb : List String := ["self", "la", "lb", "queue", "matching_blocks", "alo", "ahi", "blo", "bhi", "i", "j", "k", "x", "i1", "j1", "k1", "non_adjacent", "i2", "j2", "k2"]
theorem ok_gmb : NamesOk ns_gmb (scoOf (me 8 7)) := ⟨by decide, by kernel_rfl!, by kernel_rfl!⟩
section
variable {w : World} {A : Around} {gs : Array GenState} {dr : Drawn} {os : OsState} {g h : Heap} {L : Addr} {t : Nat} {v : Value} {v0 v1 v2 v3 v4 v5 v6 v7 v8 v9 v10 v11 v12 v13 v14 v15 v16 v17 v18 v19 : Option Value} {r : List (Option Value)} {news : List (Addr × Obj)} {pos : Pos}
theorem ld_gmb_0 {Q : Value → Shared → Prop} (H : Hp g L h (LV ns_gmb (some v :: r)) news) (y : Q v ⟨h, gs, dr, t, os⟩) : WP w A (eval (.Name (Str.ofString "self") pos) (env_gmb L)) Q ⟨h, gs, dr, t, os⟩ := ldH_of ok_gmb H 0 rfl rfl y
theorem ld_gmb_1 {Q : Value → Shared → Prop} (H : Hp g L h (LV ns_gmb (v0 :: some v :: r)) news) (y : Q v ⟨h, gs, dr, t, os⟩) : WP w A (eval (.Name (Str.ofString "la") pos) (env_gmb L)) Q ⟨h, gs, dr, t, os⟩ := ldH_of ok_gmb H 1 rfl rfl y
theorem st_gmb_1 {Q : Unit → Shared → Prop} (H : Hp g L h (LV ns_gmb [v0, v1, v2, v3, v4, v5, v6, v7, v8, v9, v10, v11, v12, v13, v14, v15, v16, v17, v18, v19]) news) (y : ∀ h' t', Hp g L h' (LV ns_gmb [v0, some v, v2, v3, v4, v5, v6, v7, v8, v9, v10, v11, v12, v13, v14, v15, v16, v17, v18, v19]) news → Q () ⟨h', gs, dr, t', os⟩) : WP w A (storeName (env_gmb L) (Str.ofString "la") v) Q ⟨h, gs, dr, t, os⟩ := stH_of ok_gmb H 1 rfl y
theorem ld_gmb_2 {Q : Value → Shared → Prop} (H : Hp g L h (LV ns_gmb (v0 :: v1 :: some v :: r)) news) (y : Q v ⟨h, gs, dr, t, os⟩) : WP w A (eval (.Name (Str.ofString "lb") pos) (env_gmb L)) Q ⟨h, gs, dr, t, os⟩ := ldH_of ok_gmb H 2 rfl rfl y
theorem st_gmb_2 {Q : Unit → Shared → Prop} (H : Hp g L h (LV ns_gmb [v0, v1, v2, v3, v4, v5, v6, v7, v8, v9, v10, v11, v12, v13, v14, v15, v16, v17, v18, v19]) news) (y : ∀ h' t', Hp g L h' (LV ns_gmb [v0, v1, some v, v3, v4, v5, v6, v7, v8, v9, v10, v11, v12, v13, v14, v15, v16, v17, v18, v19]) news → Q () ⟨h', gs, dr, t', os⟩) : WP w A (storeName (env_gmb L) (Str.ofString "lb") v) Q ⟨h, gs, dr, t, os⟩ := stH_of ok_gmb H 2 rfl y
theorem ld_gmb_3 {Q : Value → Shared → Prop} (H : Hp g L h (LV ns_gmb (v0 :: v1 :: v2 :: some v :: r)) news) (y : Q v ⟨h, gs, dr, t, os⟩) : WP w A (eval (.Name (Str.ofString "queue") pos) (env_gmb L)) Q ⟨h, gs, dr, t, os⟩ := ldH_of ok_gmb H 3 rfl rfl y
theorem st_gmb_3 {Q : Unit → Shared → Prop} (H : Hp g L h (LV ns_gmb [v0, v1, v2, v3, v4, v5, v6, v7, v8, v9, v10, v11, v12, v13, v14, v15, v16, v17, v18, v19]) news) (y : ∀ h' t', Hp g L h' (LV ns_gmb [v0, v1, v2, some v, v4, v5, v6, v7, v8, v9, v10, v11, v12, v13, v14, v15, v16, v17, v18, v19]) news → Q () ⟨h', gs, dr, t', os⟩) : WP w A (storeName (env_gmb L) (Str.ofString "queue") v) Q ⟨h, gs, dr, t, os⟩ := stH_of ok_gmb H 3 rfl y
theorem ld_gmb_4 {Q : Value → Shared → Prop} (H : Hp g L h (LV ns_gmb (v0 :: v1 :: v2 :: v3 :: some v :: r)) news) (y : Q v ⟨h, gs, dr, t, os⟩) : WP w A (eval (.Name (Str.ofString "matching_blocks") pos) (env_gmb L)) Q ⟨h, gs, dr, t, os⟩ := ldH_of ok_gmb H 4 rfl rfl y
theorem st_gmb_4 {Q : Unit → Shared → Prop} (H : Hp g L h (LV ns_gmb [v0, v1, v2, v3, v4, v5, v6, v7, v8, v9, v10, v11, v12, v13, v14, v15, v16, v17, v18, v19]) news) (y : ∀ h' t', Hp g L h' (LV ns_gmb [v0, v1, v2, v3, some v, v5, v6, v7, v8, v9, v10, v11, v12, v13, v14, v15, v16, v17, v18, v19]) news → Q () ⟨h', gs, dr, t', os⟩) : WP w A (storeName (env_gmb L) (Str.ofString "matching_blocks") v) Q ⟨h, gs, dr, t, os⟩ := stH_of ok_gmb H 4 rfl y
theorem ld_gmb_5 {Q : Value → Shared → Prop} (H : Hp g L h (LV ns_gmb (v0 :: v1 :: v2 :: v3 :: v4 :: some v :: r)) news) (y : Q v ⟨h, gs, dr, t, os⟩) : WP w A (eval (.Name (Str.ofString "alo") pos) (env_gmb L)) Q ⟨h, gs, dr, t, os⟩ := ldH_of ok_gmb H 5 rfl rfl y
theorem st_gmb_5 {Q : Unit → Shared → Prop} (H : Hp g L h (LV ns_gmb [v0, v1, v2, v3, v4, v5, v6, v7, v8, v9, v10, v11, v12, v13, v14, v15, v16, v17, v18, v19]) news) (y : ∀ h' t', Hp g L h' (LV ns_gmb [v0, v1, v2, v3, v4, some v, v6, v7, v8, v9, v10, v11, v12, v13, v14, v15, v16, v17, v18, v19]) news → Q () ⟨h', gs, dr, t', os⟩) : WP w A (storeName (env_gmb L) (Str.ofString "alo") v) Q ⟨h, gs, dr, t, os⟩ := stH_of ok_gmb H 5 rfl y
theorem ld_gmb_6 {Q : Value → Shared → Prop} (H : Hp g L h (LV ns_gmb (v0 :: v1 :: v2 :: v3 :: v4 :: v5 :: some v :: r)) news) (y : Q v ⟨h, gs, dr, t, os⟩) : WP w A (eval (.Name (Str.ofString "ahi") pos) (env_gmb L)) Q ⟨h, gs, dr, t, os⟩ := ldH_of ok_gmb H 6 rfl rfl y
theorem st_gmb_6 {Q : Unit → Shared → Prop} (H : Hp g L h (LV ns_gmb [v0, v1, v2, v3, v4, v5, v6, v7, v8, v9, v10, v11, v12, v13, v14, v15, v16, v17, v18, v19]) news) (y : ∀ h' t', Hp g L h' (LV ns_gmb [v0, v1, v2, v3, v4, v5, some v, v7, v8, v9, v10, v11, v12, v13, v14, v15, v16, v17, v18, v19]) news → Q () ⟨h', gs, dr, t', os⟩) : WP w A (storeName (env_gmb L) (Str.ofString "ahi") v) Q ⟨h, gs, dr, t, os⟩ := stH_of ok_gmb H 6 rfl y
theorem ld_gmb_7 {Q : Value → Shared → Prop} (H : Hp g L h (LV ns_gmb (v0 :: v1 :: v2 :: v3 :: v4 :: v5 :: v6 :: some v :: r)) news) (y : Q v ⟨h, gs, dr, t, os⟩) : WP w A (eval (.Name (Str.ofString "blo") pos) (env_gmb L)) Q ⟨h, gs, dr, t, os⟩ := ldH_of ok_gmb H 7 rfl rfl y
theorem st_gmb_7 {Q : Unit → Shared → Prop} (H : Hp g L h (LV ns_gmb [v0, v1, v2, v3, v4, v5, v6, v7, v8, v9, v10, v11, v12, v13, v14, v15, v16, v17, v18, v19]) news) (y : ∀ h' t', Hp g L h' (LV ns_gmb [v0, v1, v2, v3, v4, v5, v6, some v, v8, v9, v10, v11, v12, v13, v14, v15, v16, v17, v18, v19]) news → Q () ⟨h', gs, dr, t', os⟩) : WP w A (storeName (env_gmb L) (Str.ofString "blo") v) Q ⟨h, gs, dr, t, os⟩ := stH_of ok_gmb H 7 rfl y
theorem ld_gmb_8 {Q : Value → Shared → Prop} (H : Hp g L h (LV ns_gmb (v0 :: v1 :: v2 :: v3 :: v4 :: v5 :: v6 :: v7 :: some v :: r)) news) (y : Q v ⟨h, gs, dr, t, os⟩) : WP w A (eval (.Name (Str.ofString "bhi") pos) (env_gmb L)) Q ⟨h, gs, dr, t, os⟩ := ldH_of ok_gmb H 8 rfl rfl y
theorem st_gmb_8 {Q : Unit → Shared → Prop} (H : Hp g L h (LV ns_gmb [v0, v1, v2, v3, v4, v5, v6, v7, v8, v9, v10, v11, v12, v13, v14, v15, v16, v17, v18, v19]) news) (y : ∀ h' t', Hp g L h' (LV ns_gmb [v0, v1, v2, v3, v4, v5, v6, v7, some v, v9, v10, v11, v12, v13, v14, v15, v16, v17, v18, v19]) news → Q () ⟨h', gs, dr, t', os⟩) : WP w A (storeName (env_gmb L) (Str.ofString "bhi") v) Q ⟨h, gs, dr, t, os⟩ := stH_of ok_gmb H 8 rfl y
theorem ld_gmb_9 {Q : Value → Shared → Prop} (H : Hp g L h (LV ns_gmb (v0 :: v1 :: v2 :: v3 :: v4 :: v5 :: v6 :: v7 :: v8 :: some v :: r)) news) (y : Q v ⟨h, gs, dr, t, os⟩) : WP w A (eval (.Name (Str.ofString "i") pos) (env_gmb L)) Q ⟨h, gs, dr, t, os⟩ := ldH_of ok_gmb H 9 rfl rfl y
theorem st_gmb_9 {Q : Unit → Shared → Prop} (H : Hp g L h (LV ns_gmb [v0, v1, v2, v3, v4, v5, v6, v7, v8, v9, v10, v11, v12, v13, v14, v15, v16, v17, v18, v19]) news) (y : ∀ h' t', Hp g L h' (LV ns_gmb [v0, v1, v2, v3, v4, v5, v6, v7, v8, some v, v10, v11, v12, v13, v14, v15, v16, v17, v18, v19]) news → Q () ⟨h', gs, dr, t', os⟩) : WP w A (storeName (env_gmb L) (Str.ofString "i") v) Q ⟨h, gs, dr, t, os⟩ := stH_of ok_gmb H 9 rfl y
theorem ld_gmb_10 {Q : Value → Shared → Prop} (H : Hp g L h (LV ns_gmb (v0 :: v1 :: v2 :: v3 :: v4 :: v5 :: v6 :: v7 :: v8 :: v9 :: some v :: r)) news) (y : Q v ⟨h, gs, dr, t, os⟩) : WP w A (eval (.Name (Str.ofString "j") pos) (env_gmb L)) Q ⟨h, gs, dr, t, os⟩ := ldH_of ok_gmb H 10 rfl rfl y
theorem st_gmb_10 {Q : Unit → Shared → Prop} (H : Hp g L h (LV ns_gmb [v0, v1, v2, v3, v4, v5, v6, v7, v8, v9, v10, v11, v12, v13, v14, v15, v16, v17, v18, v19]) news) (y : ∀ h' t', Hp g L h' (LV ns_gmb [v0, v1, v2, v3, v4, v5, v6, v7, v8, v9, some v, v11, v12, v13, v14, v15, v16, v17, v18, v19]) news → Q () ⟨h', gs, dr, t', os⟩) : WP w A (storeName (env_gmb L) (Str.ofString "j") v) Q ⟨h, gs, dr, t, os⟩ := stH_of ok_gmb H 10 rfl y
theorem ld_gmb_11 {Q : Value → Shared → Prop} (H : Hp g L h (LV ns_gmb (v0 :: v1 :: v2 :: v3 :: v4 :: v5 :: v6 :: v7 :: v8 :: v9 :: v10 :: some v :: r)) news) (y : Q v ⟨h, gs, dr, t, os⟩) : WP w A (eval (.Name (Str.ofString "k") pos) (env_gmb L)) Q ⟨h, gs, dr, t, os⟩ := ldH_of ok_gmb H 11 rfl rfl y
theorem st_gmb_11 {Q : Unit → Shared → Prop} (H : Hp g L h (LV ns_gmb [v0, v1, v2, v3, v4, v5, v6, v7, v8, v9, v10, v11, v12, v13, v14, v15, v16, v17, v18, v19]) news) (y : ∀ h' t', Hp g L h' (LV ns_gmb [v0, v1, v2, v3, v4, v5, v6, v7, v8, v9, v10, some v, v12, v13, v14, v15, v16, v17, v18, v19]) news → Q () ⟨h', gs, dr, t', os⟩) : WP w A (storeName (env_gmb L) (Str.ofString "k") v) Q ⟨h, gs, dr, t, os⟩ := stH_of ok_gmb H 11 rfl y
theorem ld_gmb_12 {Q : Value → Shared → Prop} (H : Hp g L h (LV ns_gmb (v0 :: v1 :: v2 :: v3 :: v4 :: v5 :: v6 :: v7 :: v8 :: v9 :: v10 :: v11 :: some v :: r)) news) (y : Q v ⟨h, gs, dr, t, os⟩) : WP w A (eval (.Name (Str.ofString "x") pos) (env_gmb L)) Q ⟨h, gs, dr, t, os⟩ := ldH_of ok_gmb H 12 rfl rfl y
theorem st_gmb_12 {Q : Unit → Shared → Prop} (H : Hp g L h (LV ns_gmb [v0, v1, v2, v3, v4, v5, v6, v7, v8, v9, v10, v11, v12, v13, v14, v15, v16, v17, v18, v19]) news) (y : ∀ h' t', Hp g L h' (LV ns_gmb [v0, v1, v2, v3, v4, v5, v6, v7, v8, v9, v10, v11, some v, v13, v14, v15, v16, v17, v18, v19]) news → Q () ⟨h', gs, dr, t', os⟩) : WP w A (storeName (env_gmb L) (Str.ofString "x") v) Q ⟨h, gs, dr, t, os⟩ := stH_of ok_gmb H 12 rfl y
theorem ld_gmb_13 {Q : Value → Shared → Prop} (H : Hp g L h (LV ns_gmb (v0 :: v1 :: v2 :: v3 :: v4 :: v5 :: v6 :: v7 :: v8 :: v9 :: v10 :: v11 :: v12 :: some v :: r)) news) (y : Q v ⟨h, gs, dr, t, os⟩) : WP w A (eval (.Name (Str.ofString "i1") pos) (env_gmb L)) Q ⟨h, gs, dr, t, os⟩ := ldH_of ok_gmb H 13 rfl rfl y
theorem st_gmb_13 {Q : Unit → Shared → Prop} (H : Hp g L h (LV ns_gmb [v0, v1, v2, v3, v4, v5, v6, v7, v8, v9, v10, v11, v12, v13, v14, v15, v16, v17, v18, v19]) news) (y : ∀ h' t', Hp g L h' (LV ns_gmb [v0, v1, v2, v3, v4, v5, v6, v7, v8, v9, v10, v11, v12, some v, v14, v15, v16, v17, v18, v19]) news → Q () ⟨h', gs, dr, t', os⟩) : WP w A (storeName (env_gmb L) (Str.ofString "i1") v) Q ⟨h, gs, dr, t, os⟩ := stH_of ok_gmb H 13 rfl y
theorem ld_gmb_14 {Q : Value → Shared → Prop} (H : Hp g L h (LV ns_gmb (v0 :: v1 :: v2 :: v3 :: v4 :: v5 :: v6 :: v7 :: v8 :: v9 :: v10 :: v11 :: v12 :: v13 :: some v :: r)) news) (y : Q v ⟨h, gs, dr, t, os⟩) : WP w A (eval (.Name (Str.ofString "j1") pos) (env_gmb L)) Q ⟨h, gs, dr, t, os⟩ := ldH_of ok_gmb H 14 rfl rfl y
theorem st_gmb_14 {Q : Unit → Shared → Prop} (H : Hp g L h (LV ns_gmb [v0, v1, v2, v3, v4, v5, v6, v7, v8, v9, v10, v11, v12, v13, v14, v15, v16, v17, v18, v19]) news) (y : ∀ h' t', Hp g L h' (LV ns_gmb [v0, v1, v2, v3, v4, v5, v6, v7, v8, v9, v10, v11, v12, v13, some v, v15, v16, v17, v18, v19]) news → Q () ⟨h', gs, dr, t', os⟩) : WP w A (storeName (env_gmb L) (Str.ofString "j1") v) Q ⟨h, gs, dr, t, os⟩ := stH_of ok_gmb H 14 rfl y
theorem ld_gmb_15 {Q : Value → Shared → Prop} (H : Hp g L h (LV ns_gmb (v0 :: v1 :: v2 :: v3 :: v4 :: v5 :: v6 :: v7 :: v8 :: v9 :: v10 :: v11 :: v12 :: v13 :: v14 :: some v :: r)) news) (y : Q v ⟨h, gs, dr, t, os⟩) : WP w A (eval (.Name (Str.ofString "k1") pos) (env_gmb L)) Q ⟨h, gs, dr, t, os⟩ := ldH_of ok_gmb H 15 rfl rfl y
theorem st_gmb_15 {Q : Unit → Shared → Prop} (H : Hp g L h (LV ns_gmb [v0, v1, v2, v3, v4, v5, v6, v7, v8, v9, v10, v11, v12, v13, v14, v15, v16, v17, v18, v19]) news) (y : ∀ h' t', Hp g L h' (LV ns_gmb [v0, v1, v2, v3, v4, v5, v6, v7, v8, v9, v10, v11, v12, v13, v14, some v, v16, v17, v18, v19]) news → Q () ⟨h', gs, dr, t', os⟩) : WP w A (storeName (env_gmb L) (Str.ofString "k1") v) Q ⟨h, gs, dr, t, os⟩ := stH_of ok_gmb H 15 rfl y
theorem ld_gmb_16 {Q : Value → Shared → Prop} (H : Hp g L h (LV ns_gmb (v0 :: v1 :: v2 :: v3 :: v4 :: v5 :: v6 :: v7 :: v8 :: v9 :: v10 :: v11 :: v12 :: v13 :: v14 :: v15 :: some v :: r)) news) (y : Q v ⟨h, gs, dr, t, os⟩) : WP w A (eval (.Name (Str.ofString "non_adjacent") pos) (env_gmb L)) Q ⟨h, gs, dr, t, os⟩ := ldH_of ok_gmb H 16 rfl rfl y
theorem st_gmb_16 {Q : Unit → Shared → Prop} (H : Hp g L h (LV ns_gmb [v0, v1, v2, v3, v4, v5, v6, v7, v8, v9, v10, v11, v12, v13, v14, v15, v16, v17, v18, v19]) news) (y : ∀ h' t', Hp g L h' (LV ns_gmb [v0, v1, v2, v3, v4, v5, v6, v7, v8, v9, v10, v11, v12, v13, v14, v15, some v, v17, v18, v19]) news → Q () ⟨h', gs, dr, t', os⟩) : WP w A (storeName (env_gmb L) (Str.ofString "non_adjacent") v) Q ⟨h, gs, dr, t, os⟩ := stH_of ok_gmb H 16 rfl y
theorem ld_gmb_17 {Q : Value → Shared → Prop} (H : Hp g L h (LV ns_gmb (v0 :: v1 :: v2 :: v3 :: v4 :: v5 :: v6 :: v7 :: v8 :: v9 :: v10 :: v11 :: v12 :: v13 :: v14 :: v15 :: v16 :: some v :: r)) news) (y : Q v ⟨h, gs, dr, t, os⟩) : WP w A (eval (.Name (Str.ofString "i2") pos) (env_gmb L)) Q ⟨h, gs, dr, t, os⟩ := ldH_of ok_gmb H 17 rfl rfl y
theorem st_gmb_17 {Q : Unit → Shared → Prop} (H : Hp g L h (LV ns_gmb [v0, v1, v2, v3, v4, v5, v6, v7, v8, v9, v10, v11, v12, v13, v14, v15, v16, v17, v18, v19]) news) (y : ∀ h' t', Hp g L h' (LV ns_gmb [v0, v1, v2, v3, v4, v5, v6, v7, v8, v9, v10, v11, v12, v13, v14, v15, v16, some v, v18, v19]) news → Q () ⟨h', gs, dr, t', os⟩) : WP w A (storeName (env_gmb L) (Str.ofString "i2") v) Q ⟨h, gs, dr, t, os⟩ := stH_of ok_gmb H 17 rfl y
theorem ld_gmb_18 {Q : Value → Shared → Prop} (H : Hp g L h (LV ns_gmb (v0 :: v1 :: v2 :: v3 :: v4 :: v5 :: v6 :: v7 :: v8 :: v9 :: v10 :: v11 :: v12 :: v13 :: v14 :: v15 :: v16 :: v17 :: some v :: r)) news) (y : Q v ⟨h, gs, dr, t, os⟩) : WP w A (eval (.Name (Str.ofString "j2") pos) (env_gmb L)) Q ⟨h, gs, dr, t, os⟩ := ldH_of ok_gmb H 18 rfl rfl y
theorem st_gmb_18 {Q : Unit → Shared → Prop} (H : Hp g L h (LV ns_gmb [v0, v1, v2, v3, v4, v5, v6, v7, v8, v9, v10, v11, v12, v13, v14, v15, v16, v17, v18, v19]) news) (y : ∀ h' t', Hp g L h' (LV ns_gmb [v0, v1, v2, v3, v4, v5, v6, v7, v8, v9, v10, v11, v12, v13, v14, v15, v16, v17, some v, v19]) news → Q () ⟨h', gs, dr, t', os⟩) : WP w A (storeName (env_gmb L) (Str.ofString "j2") v) Q ⟨h, gs, dr, t, os⟩ := stH_of ok_gmb H 18 rfl y
theorem ld_gmb_19 {Q : Value → Shared → Prop} (H : Hp g L h (LV ns_gmb (v0 :: v1 :: v2 :: v3 :: v4 :: v5 :: v6 :: v7 :: v8 :: v9 :: v10 :: v11 :: v12 :: v13 :: v14 :: v15 :: v16 :: v17 :: v18 :: some v :: r)) news) (y : Q v ⟨h, gs, dr, t, os⟩) : WP w A (eval (.Name (Str.ofString "k2") pos) (env_gmb L)) Q ⟨h, gs, dr, t, os⟩ := ldH_of ok_gmb H 19 rfl rfl y
theorem st_gmb_19 {Q : Unit → Shared → Prop} (H : Hp g L h (LV ns_gmb [v0, v1, v2, v3, v4, v5, v6, v7, v8, v9, v10, v11, v12, v13, v14, v15, v16, v17, v18, v19]) news) (y : ∀ h' t', Hp g L h' (LV ns_gmb [v0, v1, v2, v3, v4, v5, v6, v7, v8, v9, v10, v11, v12, v13, v14, v15, v16, v17, v18, some v]) news → Q () ⟨h', gs, dr, t', os⟩) : WP w A (storeName (env_gmb L) (Str.ofString "k2") v) Q ⟨h, gs, dr, t, os⟩ := stH_of ok_gmb H 19 rfl y
theorem gl_gmb_len {m : Str → Option Value} {Q : Value → Shared → Prop} (B : Bs w g) (H : Hp g L h m news) (y : Q (.builtin "len") ⟨h, gs, dr, t, os⟩) : WP w A (eval (.Name (Str.ofString "len") pos) (env_gmb L)) Q ⟨h, gs, dr, t, os⟩ := e_blt B H (nmB_len _) bbB_len (by decide) y ok_gmb.kind (by kernel_rfl!)
theorem gl_gmb_list {m : Str → Option Value} {Q : Value → Shared → Prop} (B : Bs w g) (H : Hp g L h m news) (y : Q (.type "list") ⟨h, gs, dr, t, os⟩) : WP w A (eval (.Name (Str.ofString "list") pos) (env_gmb L)) Q ⟨h, gs, dr, t, os⟩ := e_blt B H (nmB_list _) bbB_list (by decide) y ok_gmb.kind (by kernel_rfl!)
theorem gl_gmb_map {m : Str → Option Value} {Q : Value → Shared → Prop} (B : Bs w g) (H : Hp g L h m news) (y : Q (.type "map") ⟨h, gs, dr, t, os⟩) : WP w A (eval (.Name (Str.ofString "map") pos) (env_gmb L)) Q ⟨h, gs, dr, t, os⟩ := e_blt B H (nmB_map _) bbB_map (by decide) y ok_gmb.kind (by kernel_rfl!)
theorem gl_gmb_Match {m : Str → Option Value} {Q : Value → Shared → Prop} (B : Bs w g) (H : Hp g L h m news) (y : Q (.ref 142) ⟨h, gs, dr, t, os⟩) : WP w A (eval (.Name (Str.ofString "Match") pos) (env_gmb L)) Q ⟨h, gs, dr, t, os⟩ := e_glob B H (nmG_Match _) y ok_gmb.kind (by kernel_rfl!)
end
-- goc
noncomputable def env_goc (L : Addr) : Env := envOf (Str.ofString "SequenceMatcher.get_opcodes") (scoOf (me 8 8)) L 217 (.ref 216)
noncomputable def ns_goc : List String := ["self", "i", "j", "answer", "ai", "bj", "size", "tag"]
theorem ok_goc : NamesOk ns_goc (scoOf (me 8 8)) := ⟨by decide, by kernel_rfl!, by kernel_rfl!⟩
section
variable {w : World} {A : Around} {gs : Array GenState} {dr : Drawn} {os : OsState} {g h : Heap} {L : Addr} {t : Nat} {v : Value} {v0 v1 v2 v3 v4 v5 v6 v7 : Option Value} {r : List (Option Value)} {news : List (Addr × Obj)} {pos : Pos}
theorem ld_goc_0 {Q : Value → Shared → Prop} (H : Hp g L h (LV ns_goc (some v :: r)) news) (y : Q v ⟨h, gs, dr, t, os⟩) : WP w A (eval (.Name (Str.ofString "self") pos) (env_goc L)) Q ⟨h, gs, dr, t, os⟩ := ldH_of ok_goc H 0 rfl rfl y
theorem ld_goc_1 {Q : Value → Shared → Prop} (H : Hp g L h (LV ns_goc (v0 :: some v :: r)) news) (y : Q v ⟨h, gs, dr, t, os⟩) : WP w A (eval (.Name (Str.ofString "i") pos) (env_goc L)) Q ⟨h, gs, dr, t, os⟩ := ldH_of ok_goc H 1 rfl rfl y
theorem st_goc_1 {Q : Unit → Shared → Prop} (H : Hp g L h (LV ns_goc [v0, v1, v2, v3, v4, v5, v6, v7]) news) (y : ∀ h' t', Hp g L h' (LV ns_goc [v0, some v, v2, v3, v4, v5, v6, v7]) news → Q () ⟨h', gs, dr, t', os⟩) : WP w A (storeName (env_goc L) (Str.ofString "i") v) Q ⟨h, gs, dr, t, os⟩ := stH_of ok_goc H 1 rfl y
theorem ld_goc_2 {Q : Value → Shared → Prop} (H : Hp g L h (LV ns_goc (v0 :: v1 :: some v :: r)) news) (y : Q v ⟨h, gs, dr, t, os⟩) : WP w A (eval (.Name (Str.ofString "j") pos) (env_goc L)) Q ⟨h, gs, dr, t, os⟩ := ldH_of ok_goc H 2 rfl rfl y
theorem st_goc_2 {Q : Unit → Shared → Prop} (H : Hp g L h (LV ns_goc [v0, v1, v2, v3, v4, v5, v6, v7]) news) (y : ∀ h' t', Hp g L h' (LV ns_goc [v0, v1, some v, v3, v4, v5, v6, v7]) news → Q () ⟨h', gs, dr, t', os⟩) : WP w A (storeName (env_goc L) (Str.ofString "j") v) Q ⟨h, gs, dr, t, os⟩ := stH_of ok_goc H 2 rfl y
theorem ld_goc_3 {Q : Value → Shared → Prop} (H : Hp g L h (LV ns_goc (v0 :: v1 :: v2 :: some v :: r)) news) (y : Q v ⟨h, gs, dr, t, os⟩) : WP w A (eval (.Name (Str.ofString "answer") pos) (env_goc L)) Q ⟨h, gs, dr, t, os⟩ := ldH_of ok_goc H 3 rfl rfl y
theorem st_goc_3 {Q : Unit → Shared → Prop} (H : Hp g L h (LV ns_goc [v0, v1, v2, v3, v4, v5, v6, v7]) news) (y : ∀ h' t', Hp g L h' (LV ns_goc [v0, v1, v2, some v, v4, v5, v6, v7]) news → Q () ⟨h', gs, dr, t', os⟩) : WP w A (storeName (env_goc L) (Str.ofString "answer") v) Q ⟨h, gs, dr, t, os⟩ := stH_of ok_goc H 3 rfl y
theorem ld_goc_4 {Q : Value → Shared → Prop} (H : Hp g L h (LV ns_goc (v0 :: v1 :: v2 :: v3 :: some v :: r)) news) (y : Q v ⟨h, gs, dr, t, os⟩) : WP w A (eval (.Name (Str.ofString "ai") pos) (env_goc L)) Q ⟨h, gs, dr, t, os⟩ := ldH_of ok_goc H 4 rfl rfl y
theorem st_goc_4 {Q : Unit → Shared → Prop} (H : Hp g L h (LV ns_goc [v0, v1, v2, v3, v4, v5, v6, v7]) news) (y : ∀ h' t', Hp g L h' (LV ns_goc [v0, v1, v2, v3, some v, v5, v6, v7]) news → Q () ⟨h', gs, dr, t', os⟩) : WP w A (storeName (env_goc L) (Str.ofString "ai") v) Q ⟨h, gs, dr, t, os⟩ := stH_of ok_goc H 4 rfl y
theorem ld_goc_5 {Q : Value → Shared → Prop} (H : Hp g L h (LV ns_goc (v0 :: v1 :: v2 :: v3 :: v4 :: some v :: r)) news) (y : Q v ⟨h, gs, dr, t, os⟩) : WP w A (eval (.Name (Str.ofString "bj") pos) (env_goc L)) Q ⟨h, gs, dr, t, os⟩ := ldH_of ok_goc H 5 rfl rfl y
theorem st_goc_5 {Q : Unit → Shared → Prop} (H : Hp g L h (LV ns_goc [v0, v1, v2, v3, v4, v5, v6, v7]) news) (y : ∀ h' t', Hp g L h' (LV ns_goc [v0, v1, v2, v3, v4, some v, v6, v7]) news → Q () ⟨h', gs, dr, t', os⟩) : WP w A (storeName (env_goc L) (Str.ofString "bj") v) Q ⟨h, gs, dr, t, os⟩ := stH_of ok_goc H 5 rfl y
theorem ld_goc_6 {Q : Value → Shared → Prop} (H : Hp g L h (LV ns_goc (v0 :: v1 :: v2 :: v3 :: v4 :: v5 :: some v :: r)) news) (y : Q v ⟨h, gs, dr, t, os⟩) : WP w A (eval (.Name (Str.ofString "size") pos) (env_goc L)) Q ⟨h, gs, dr, t, os⟩ := ldH_of ok_goc H 6 rfl rfl y
theorem st_goc_6 {Q : Unit → Shared → Prop} (H : Hp g L h (LV ns_goc [v0, v1, v2, v3, v4, v5, v6, v7]) news) (y : ∀ h' t', Hp g L h' (LV ns_goc [v0, v1, v2, v3, v4, v5, some v, v7]) news → Q () ⟨h', gs, dr, t', os⟩) : WP w A (storeName (env_goc L) (Str.ofString "size") v) Q ⟨h, gs, dr, t, os⟩ := stH_of ok_goc H 6 rfl y
theorem ld_goc_7 {Q : Value → Shared → Prop} (H : Hp g L h (LV ns_goc (v0 :: v1 :: v2 :: v3 :: v4 :: v5 :: v6 :: some v :: r)) news) (y : Q v ⟨h, gs, dr, t, os⟩) : WP w A (eval (.Name (Str.ofString "tag") pos) (env_goc L)) Q ⟨h, gs, dr, t, os⟩ := ldH_of ok_goc H 7 rfl rfl y
theorem st_goc_7 {Q : Unit → Shared → Prop} (H : Hp g L h (LV ns_goc [v0, v1, v2, v3, v4, v5, v6, v7]) news) (y : ∀ h' t', Hp g L h' (LV ns_goc [v0, v1, v2, v3, v4, v5, v6, some v]) news → Q () ⟨h', gs, dr, t', os⟩) : WP w A (storeName (env_goc L) (Str.ofString "tag") v) Q ⟨h, gs, dr, t, os⟩ := stH_of ok_goc H 7 rfl y
end
-- law
noncomputable def env_law (L : Addr) : Env := envOf (Str.ofString "law") (scoOf (st 12)) L 268 (.ref 267)
noncomputable def ns_law : List String := ["script", "drawn", "ahead", "behind", "text", "total", "one", "two", "head", "tail", "short", "codes", "told", "matcher"]
theorem ok_law : NamesOk ns_law (scoOf (st 12)) := ⟨by decide, by kernel_rfl!, by kernel_rfl!⟩
section
variable {w : World} {A : Around} {gs : Array GenState} {dr : Drawn} {os : OsState} {g h : Heap} {L : Addr} {t : Nat} {v : Value} {v0 v1 v2 v3 v4 v5 v6 v7 v8 v9 v10 v11 v12 v13 : Option Value} {r : List (Option Value)} {news : List (Addr × Obj)} {pos : Pos}
theorem ld_law_0 {Q : Value → Shared → Prop} (H : Hp g L h (LV ns_law (some v :: r)) news) (y : Q v ⟨h, gs, dr, t, os⟩) : WP w A (eval (.Name (Str.ofString "script") pos) (env_law L)) Q ⟨h, gs, dr, t, os⟩ := ldH_of ok_law H 0 rfl rfl y
theorem ld_law_1 {Q : Value → Shared → Prop} (H : Hp g L h (LV ns_law (v0 :: some v :: r)) news) (y : Q v ⟨h, gs, dr, t, os⟩) : WP w A (eval (.Name (Str.ofString "drawn") pos) (env_law L)) Q ⟨h, gs, dr, t, os⟩ := ldH_of ok_law H 1 rfl rfl y
theorem st_law_1 {Q : Unit → Shared → Prop} (H : Hp g L h (LV ns_law [v0, v1, v2, v3, v4, v5, v6, v7, v8, v9, v10, v11, v12, v13]) news) (y : ∀ h' t', Hp g L h' (LV ns_law [v0, some v, v2, v3, v4, v5, v6, v7, v8, v9, v10, v11, v12, v13]) news → Q () ⟨h', gs, dr, t', os⟩) : WP w A (storeName (env_law L) (Str.ofString "drawn") v) Q ⟨h, gs, dr, t, os⟩ := stH_of ok_law H 1 rfl y
theorem ld_law_2 {Q : Value → Shared → Prop} (H : Hp g L h (LV ns_law (v0 :: v1 :: some v :: r)) news) (y : Q v ⟨h, gs, dr, t, os⟩) : WP w A (eval (.Name (Str.ofString "ahead") pos) (env_law L)) Q ⟨h, gs, dr, t, os⟩ := ldH_of ok_law H 2 rfl rfl y
theorem st_law_2 {Q : Unit → Shared → Prop} (H : Hp g L h (LV ns_law [v0, v1, v2, v3, v4, v5, v6, v7, v8, v9, v10, v11, v12, v13]) news) (y : ∀ h' t', Hp g L h' (LV ns_law [v0, v1, some v, v3, v4, v5, v6, v7, v8, v9, v10, v11, v12, v13]) news → Q () ⟨h', gs, dr, t', os⟩) : WP w A (storeName (env_law L) (Str.ofString "ahead") v) Q ⟨h, gs, dr, t, os⟩ := stH_of ok_law H 2 rfl y
theorem ld_law_3 {Q : Value → Shared → Prop} (H : Hp g L h (LV ns_law (v0 :: v1 :: v2 :: some v :: r)) news) (y : Q v ⟨h, gs, dr, t, os⟩) : WP w A (eval (.Name (Str.ofString "behind") pos) (env_law L)) Q ⟨h, gs, dr, t, os⟩ := ldH_of ok_law H 3 rfl rfl y
theorem st_law_3 {Q : Unit → Shared → Prop} (H : Hp g L h (LV ns_law [v0, v1, v2, v3, v4, v5, v6, v7, v8, v9, v10, v11, v12, v13]) news) (y : ∀ h' t', Hp g L h' (LV ns_law [v0, v1, v2, some v, v4, v5, v6, v7, v8, v9, v10, v11, v12, v13]) news → Q () ⟨h', gs, dr, t', os⟩) : WP w A (storeName (env_law L) (Str.ofString "behind") v) Q ⟨h, gs, dr, t, os⟩ := stH_of ok_law H 3 rfl y
theorem ld_law_4 {Q : Value → Shared → Prop} (H : Hp g L h (LV ns_law (v0 :: v1 :: v2 :: v3 :: some v :: r)) news) (y : Q v ⟨h, gs, dr, t, os⟩) : WP w A (eval (.Name (Str.ofString "text") pos) (env_law L)) Q ⟨h, gs, dr, t, os⟩ := ldH_of ok_law H 4 rfl rfl y
theorem st_law_4 {Q : Unit → Shared → Prop} (H : Hp g L h (LV ns_law [v0, v1, v2, v3, v4, v5, v6, v7, v8, v9, v10, v11, v12, v13]) news) (y : ∀ h' t', Hp g L h' (LV ns_law [v0, v1, v2, v3, some v, v5, v6, v7, v8, v9, v10, v11, v12, v13]) news → Q () ⟨h', gs, dr, t', os⟩) : WP w A (storeName (env_law L) (Str.ofString "text") v) Q ⟨h, gs, dr, t, os⟩ := stH_of ok_law H 4 rfl y
theorem ld_law_5 {Q : Value → Shared → Prop} (H : Hp g L h (LV ns_law (v0 :: v1 :: v2 :: v3 :: v4 :: some v :: r)) news) (y : Q v ⟨h, gs, dr, t, os⟩) : WP w A (eval (.Name (Str.ofString "total") pos) (env_law L)) Q ⟨h, gs, dr, t, os⟩ := ldH_of ok_law H 5 rfl rfl y
theorem st_law_5 {Q : Unit → Shared → Prop} (H : Hp g L h (LV ns_law [v0, v1, v2, v3, v4, v5, v6, v7, v8, v9, v10, v11, v12, v13]) news) (y : ∀ h' t', Hp g L h' (LV ns_law [v0, v1, v2, v3, v4, some v, v6, v7, v8, v9, v10, v11, v12, v13]) news → Q () ⟨h', gs, dr, t', os⟩) : WP w A (storeName (env_law L) (Str.ofString "total") v) Q ⟨h, gs, dr, t, os⟩ := stH_of ok_law H 5 rfl y
theorem ld_law_6 {Q : Value → Shared → Prop} (H : Hp g L h (LV ns_law (v0 :: v1 :: v2 :: v3 :: v4 :: v5 :: some v :: r)) news) (y : Q v ⟨h, gs, dr, t, os⟩) : WP w A (eval (.Name (Str.ofString "one") pos) (env_law L)) Q ⟨h, gs, dr, t, os⟩ := ldH_of ok_law H 6 rfl rfl y
theorem st_law_6 {Q : Unit → Shared → Prop} (H : Hp g L h (LV ns_law [v0, v1, v2, v3, v4, v5, v6, v7, v8, v9, v10, v11, v12, v13]) news) (y : ∀ h' t', Hp g L h' (LV ns_law [v0, v1, v2, v3, v4, v5, some v, v7, v8, v9, v10, v11, v12, v13]) news → Q () ⟨h', gs, dr, t', os⟩) : WP w A (storeName (env_law L) (Str.ofString "one") v) Q ⟨h, gs, dr, t, os⟩ := stH_of ok_law H 6 rfl y
theorem ld_law_7 {Q : Value → Shared → Prop} (H : Hp g L h (LV ns_law (v0 :: v1 :: v2 :: v3 :: v4 :: v5 :: v6 :: some v :: r)) news) (y : Q v ⟨h, gs, dr, t, os⟩) : WP w A (eval (.Name (Str.ofString "two") pos) (env_law L)) Q ⟨h, gs, dr, t, os⟩ := ldH_of ok_law H 7 rfl rfl y
theorem st_law_7 {Q : Unit → Shared → Prop} (H : Hp g L h (LV ns_law [v0, v1, v2, v3, v4, v5, v6, v7, v8, v9, v10, v11, v12, v13]) news) (y : ∀ h' t', Hp g L h' (LV ns_law [v0, v1, v2, v3, v4, v5, v6, some v, v8, v9, v10, v11, v12, v13]) news → Q () ⟨h', gs, dr, t', os⟩) : WP w A (storeName (env_law L) (Str.ofString "two") v) Q ⟨h, gs, dr, t, os⟩ := stH_of ok_law H 7 rfl y
theorem ld_law_8 {Q : Value → Shared → Prop} (H : Hp g L h (LV ns_law (v0 :: v1 :: v2 :: v3 :: v4 :: v5 :: v6 :: v7 :: some v :: r)) news) (y : Q v ⟨h, gs, dr, t, os⟩) : WP w A (eval (.Name (Str.ofString "head") pos) (env_law L)) Q ⟨h, gs, dr, t, os⟩ := ldH_of ok_law H 8 rfl rfl y
theorem st_law_8 {Q : Unit → Shared → Prop} (H : Hp g L h (LV ns_law [v0, v1, v2, v3, v4, v5, v6, v7, v8, v9, v10, v11, v12, v13]) news) (y : ∀ h' t', Hp g L h' (LV ns_law [v0, v1, v2, v3, v4, v5, v6, v7, some v, v9, v10, v11, v12, v13]) news → Q () ⟨h', gs, dr, t', os⟩) : WP w A (storeName (env_law L) (Str.ofString "head") v) Q ⟨h, gs, dr, t, os⟩ := stH_of ok_law H 8 rfl y
theorem ld_law_9 {Q : Value → Shared → Prop} (H : Hp g L h (LV ns_law (v0 :: v1 :: v2 :: v3 :: v4 :: v5 :: v6 :: v7 :: v8 :: some v :: r)) news) (y : Q v ⟨h, gs, dr, t, os⟩) : WP w A (eval (.Name (Str.ofString "tail") pos) (env_law L)) Q ⟨h, gs, dr, t, os⟩ := ldH_of ok_law H 9 rfl rfl y
theorem st_law_9 {Q : Unit → Shared → Prop} (H : Hp g L h (LV ns_law [v0, v1, v2, v3, v4, v5, v6, v7, v8, v9, v10, v11, v12, v13]) news) (y : ∀ h' t', Hp g L h' (LV ns_law [v0, v1, v2, v3, v4, v5, v6, v7, v8, some v, v10, v11, v12, v13]) news → Q () ⟨h', gs, dr, t', os⟩) : WP w A (storeName (env_law L) (Str.ofString "tail") v) Q ⟨h, gs, dr, t, os⟩ := stH_of ok_law H 9 rfl y
theorem ld_law_10 {Q : Value → Shared → Prop} (H : Hp g L h (LV ns_law (v0 :: v1 :: v2 :: v3 :: v4 :: v5 :: v6 :: v7 :: v8 :: v9 :: some v :: r)) news) (y : Q v ⟨h, gs, dr, t, os⟩) : WP w A (eval (.Name (Str.ofString "short") pos) (env_law L)) Q ⟨h, gs, dr, t, os⟩ := ldH_of ok_law H 10 rfl rfl y
theorem st_law_10 {Q : Unit → Shared → Prop} (H : Hp g L h (LV ns_law [v0, v1, v2, v3, v4, v5, v6, v7, v8, v9, v10, v11, v12, v13]) news) (y : ∀ h' t', Hp g L h' (LV ns_law [v0, v1, v2, v3, v4, v5, v6, v7, v8, v9, some v, v11, v12, v13]) news → Q () ⟨h', gs, dr, t', os⟩) : WP w A (storeName (env_law L) (Str.ofString "short") v) Q ⟨h, gs, dr, t, os⟩ := stH_of ok_law H 10 rfl y
theorem ld_law_11 {Q : Value → Shared → Prop} (H : Hp g L h (LV ns_law (v0 :: v1 :: v2 :: v3 :: v4 :: v5 :: v6 :: v7 :: v8 :: v9 :: v10 :: some v :: r)) news) (y : Q v ⟨h, gs, dr, t, os⟩) : WP w A (eval (.Name (Str.ofString "codes") pos) (env_law L)) Q ⟨h, gs, dr, t, os⟩ := ldH_of ok_law H 11 rfl rfl y
theorem st_law_11 {Q : Unit → Shared → Prop} (H : Hp g L h (LV ns_law [v0, v1, v2, v3, v4, v5, v6, v7, v8, v9, v10, v11, v12, v13]) news) (y : ∀ h' t', Hp g L h' (LV ns_law [v0, v1, v2, v3, v4, v5, v6, v7, v8, v9, v10, some v, v12, v13]) news → Q () ⟨h', gs, dr, t', os⟩) : WP w A (storeName (env_law L) (Str.ofString "codes") v) Q ⟨h, gs, dr, t, os⟩ := stH_of ok_law H 11 rfl y
theorem ld_law_12 {Q : Value → Shared → Prop} (H : Hp g L h (LV ns_law (v0 :: v1 :: v2 :: v3 :: v4 :: v5 :: v6 :: v7 :: v8 :: v9 :: v10 :: v11 :: some v :: r)) news) (y : Q v ⟨h, gs, dr, t, os⟩) : WP w A (eval (.Name (Str.ofString "told") pos) (env_law L)) Q ⟨h, gs, dr, t, os⟩ := ldH_of ok_law H 12 rfl rfl y
theorem st_law_12 {Q : Unit → Shared → Prop} (H : Hp g L h (LV ns_law [v0, v1, v2, v3, v4, v5, v6, v7, v8, v9, v10, v11, v12, v13]) news) (y : ∀ h' t', Hp g L h' (LV ns_law [v0, v1, v2, v3, v4, v5, v6, v7, v8, v9, v10, v11, some v, v13]) news → Q () ⟨h', gs, dr, t', os⟩) : WP w A (storeName (env_law L) (Str.ofString "told") v) Q ⟨h, gs, dr, t, os⟩ := stH_of ok_law H 12 rfl y
theorem ld_law_13 {Q : Value → Shared → Prop} (H : Hp g L h (LV ns_law (v0 :: v1 :: v2 :: v3 :: v4 :: v5 :: v6 :: v7 :: v8 :: v9 :: v10 :: v11 :: v12 :: some v :: r)) news) (y : Q v ⟨h, gs, dr, t, os⟩) : WP w A (eval (.Name (Str.ofString "matcher") pos) (env_law L)) Q ⟨h, gs, dr, t, os⟩ := ldH_of ok_law H 13 rfl rfl y
theorem st_law_13 {Q : Unit → Shared → Prop} (H : Hp g L h (LV ns_law [v0, v1, v2, v3, v4, v5, v6, v7, v8, v9, v10, v11, v12, v13]) news) (y : ∀ h' t', Hp g L h' (LV ns_law [v0, v1, v2, v3, v4, v5, v6, v7, v8, v9, v10, v11, v12, some v]) news → Q () ⟨h', gs, dr, t', os⟩) : WP w A (storeName (env_law L) (Str.ofString "matcher") v) Q ⟨h, gs, dr, t, os⟩ := stH_of ok_law H 13 rfl y
theorem gl_law__law_due {m : Str → Option Value} {Q : Value → Shared → Prop} (B : Bs w g) (H : Hp g L h m news) (y : Q (.ref 258) ⟨h, gs, dr, t, os⟩) : WP w A (eval (.Name (Str.ofString "_law_due") pos) (env_law L)) Q ⟨h, gs, dr, t, os⟩ := e_glob B H (nmG_due _) y ok_law.kind (by kernel_rfl!)
theorem gl_law__shorten {m : Str → Option Value} {Q : Value → Shared → Prop} (B : Bs w g) (H : Hp g L h m news) (y : Q (.ref 28) ⟨h, gs, dr, t, os⟩) : WP w A (eval (.Name (Str.ofString "_shorten") pos) (env_law L)) Q ⟨h, gs, dr, t, os⟩ := e_glob B H (nmG_shorten _) y ok_law.kind (by kernel_rfl!)
theorem gl_law_SequenceMatcher {m : Str → Option Value} {Q : Value → Shared → Prop} (B : Bs w g) (H : Hp g L h m news) (y : Q (.ref 249) ⟨h, gs, dr, t, os⟩) : WP w A (eval (.Name (Str.ofString "SequenceMatcher") pos) (env_law L)) Q ⟨h, gs, dr, t, os⟩ := e_glob B H (nmG_SM _) y ok_law.kind (by kernel_rfl!)
theorem gl_law_sum {m : Str → Option Value} {Q : Value → Shared → Prop} (B : Bs w g) (H : Hp g L h m news) (y : Q (.builtin "sum") ⟨h, gs, dr, t, os⟩) : WP w A (eval (.Name (Str.ofString "sum") pos) (env_law L)) Q ⟨h, gs, dr, t, os⟩ := e_blt B H (nmB_sum _) bbB_sum (by decide) y ok_law.kind (by kernel_rfl!)
theorem gl_law__law_turned {m : Str → Option Value} {Q : Value → Shared → Prop} (B : Bs w g) (H : Hp g L h m news) (y : Q (.ref 263) ⟨h, gs, dr, t, os⟩) : WP w A (eval (.Name (Str.ofString "_law_turned") pos) (env_law L)) Q ⟨h, gs, dr, t, os⟩ := e_glob B H (nmG_turned _) y ok_law.kind (by kernel_rfl!)
end
section
variable {w : World} {A : Around} {env : Env} {gs : Array GenState} {dr : Drawn} {os : OsState} {h : Heap} {t : Nat} {s : Shared}
-- calls
theorem wp_operate {vs : List Value} {m : Sem Value} {Q : Value → Shared → Prop} (x : WP w A m Q s) : WP w A (operate vs m) Q s := fun Γ p hΓ => by
  rw [Sem.wp_operate]; exact x Γ p hΓ
theorem call_rule0' {pos : Pos} {f : Value} {first : List Value} {Q : Value → Shared → Prop} (x : WP w A (keeperOf f) (fun _ s₂ => WP w A (call f first) Q s₂) s) :
    WP w A (callWith pos f first (backTo pos (starEach [] env)) []) Q s := by
  unfold callWith
  refine wpAny_bind (wpAny_holding (evalArgs_empty (wpAny_bind (wpAny_standAt (wpAny_bind (wpAny_mono x (fun k s₂ h₁ => ?_) fun _ _ e => e))))))
  have tail : ∀ {t : Sem Value}, WP w A t Q s₂ → WP w A (t >>= fun r => holding [r] point >>= fun _ => pure r) Q s₂ :=
    fun ht => wpAny_bind (wpAny_mono ht (fun r s₂ hr => wpAny_bind (wpAny_holding (wpAny_point (wpAny_pure hr)))) fun _ _ x => x)
  have h₁ : WP w A (call f (first ++ [])) Q s₂ := by rw [List.append_nil]; exact h₁
  cases k <;> first
    | exact tail h₁
    | exact tail (by unfold callMarked; exact Calls.wpAny_keep h₁)
    | exact tail (wp_operate h₁)
theorem call_rule' {pos : Pos} {f : Value} {first : List Value} {e : Expr} {rest : List Expr} {Q : Value → Shared → Prop}
    (x : WP w A (spliced (backTo pos (starEach (e :: rest) env))) (fun vs s₁ => WP w A (keeperOf f) (fun _ s₂ => WP w A (call f (first ++ vs)) Q s₂) s₁) s)
    (he : backTo pos (starEach (e :: rest) env) = (false, eval e env) :: backTo pos (starEach rest env) := by with_unfolding_all rfl)
    (hp : (backTo pos (starEach (e :: rest) env)).any (·.1) = false := by with_unfolding_all rfl) (hl : (backTo pos (starEach (e :: rest) env)).length ≤ 30 := by apply Nat.le_of_ble_eq_true; with_unfolding_all rfl) :
    WP w A (callWith pos f first (backTo pos (starEach (e :: rest) env)) []) Q s := by
  unfold callWith
  rw [he] at x hl hp ⊢
  refine wpAny_bind (wpAny_holding (Calls.evalArgs_plain (wpAny_mono x (fun vs s₁ h₀ => wpAny_bind (wpAny_standAt (wpAny_bind (wpAny_mono h₀ (fun k s₂ h₁ => ?_) fun _ _ e => e)))) fun _ _ e => e)))
  have tail : ∀ {t : Sem Value}, WP w A t Q s₂ → WP w A (t >>= fun r => holding [r] point >>= fun _ => pure r) Q s₂ :=
    fun ht => wpAny_bind (wpAny_mono ht (fun r s₂ hr => wpAny_bind (wpAny_holding (wpAny_point (wpAny_pure hr)))) fun _ _ x => x)
  rw [hp]
  have hlen : ¬ (((false, eval e env) :: backTo pos (starEach rest env)).length + 2 * ([] : List (Option Str × Sem Value)).length > 30) := by simpa using hl
  cases k <;> first
    | (show WP w A (if ((false, eval e env) :: backTo pos (starEach rest env)).length + 2 * ([] : List (Option Str × Sem Value)).length > 30 then _ else _) Q s₂; rw [if_neg hlen]; exact tail (by unfold callMarked; exact Calls.wpAny_keep h₁))
    | exact tail h₁
    | exact tail (wp_operate h₁)
theorem call_rule0 {pos : Pos} {f : Value} {Q : Value → Shared → Prop} (x : WP w A (keeperOf f) (fun _ s₂ => WP w A (call f []) Q s₂) s) :
    WP w A (callWith pos f [] (backTo pos (starEach [] env)) []) Q s := call_rule0' x
theorem call_rule {pos : Pos} {f : Value} {e : Expr} {rest : List Expr} {Q : Value → Shared → Prop}
    (x : WP w A (spliced (backTo pos (starEach (e :: rest) env))) (fun vs s₁ => WP w A (keeperOf f) (fun _ s₂ => WP w A (call f vs) Q s₂) s₁) s)
    (he : backTo pos (starEach (e :: rest) env) = (false, eval e env) :: backTo pos (starEach rest env) := by with_unfolding_all rfl)
    (hp : (backTo pos (starEach (e :: rest) env)).any (·.1) = false := by with_unfolding_all rfl) (hl : (backTo pos (starEach (e :: rest) env)).length ≤ 30 := by apply Nat.le_of_ble_eq_true; with_unfolding_all rfl) :
    WP w A (callWith pos f [] (backTo pos (starEach (e :: rest) env)) []) Q s := call_rule' x he hp hl
theorem call_self0 {pos : Pos} {f self : Value} {Q : Value → Shared → Prop} (x : WP w A (keeperOf f) (fun _ s₂ => WP w A (call f [self]) Q s₂) s) :
    WP w A (callWith pos f [self] (backTo pos (starEach [] env)) []) Q s := call_rule0' x
theorem call_self {pos : Pos} {f self : Value} {e : Expr} {rest : List Expr} {Q : Value → Shared → Prop}
    (x : WP w A (spliced (backTo pos (starEach (e :: rest) env))) (fun vs s₁ => WP w A (keeperOf f) (fun _ s₂ => WP w A (call f (self :: vs)) Q s₂) s₁) s)
    (he : backTo pos (starEach (e :: rest) env) = (false, eval e env) :: backTo pos (starEach rest env) := by with_unfolding_all rfl)
    (hp : (backTo pos (starEach (e :: rest) env)).any (·.1) = false := by with_unfolding_all rfl) (hl : (backTo pos (starEach (e :: rest) env)).length ≤ 30 := by apply Nat.le_of_ble_eq_true; with_unfolding_all rfl) :
    WP w A (callWith pos f [self] (backTo pos (starEach (e :: rest) env)) []) Q s := call_rule' x he hp hl
theorem keep_fn {a : Addr} {o : Obj} {fd : FuncData} {Q : Keeper → Shared → Prop} (ho : s.heap.get? a = some o) (hd : o.data = .func fd) (x : Q .frame s) : WP w A (keeperOf (.ref a)) Q s := by
  unfold keeperOf
  refine wpAny_bind (wpAny_load ho ?_)
  rw [hd]; exact wpAny_pure x
theorem keep_bm {a : Addr} {o : Obj} {vs : Array Value} {Q : Keeper → Shared → Prop} (ho : s.heap.get? a = some o) (hc : o.cls = .type "builtin_function_or_method") (hd : o.data = .fields vs) (x : Q .machine s) : WP w A (keeperOf (.ref a)) Q s := by
  unfold keeperOf
  refine wpAny_bind (wpAny_load ho ?_)
  rw [hd]
  dsimp only
  rw [hc]
  exact wpAny_pure x
theorem keep_b {id : String} {Q : Keeper → Shared → Prop} (x : Q .machine s) : WP w A (keeperOf (.builtin id)) Q s := wpAny_pure x
theorem keep_t {T : String} {Q : Keeper → Shared → Prop} (x : Q .machine s) : WP w A (keeperOf (.type T)) Q s := wpAny_pure x
theorem e_call {func : Expr} {args : List Expr} {pos : Pos} {Q : Value → Shared → Prop} (x : WP w A (eval func env) (fun f s₁ => WP w A (callWith pos f [] (backTo pos (starEach args env)) []) Q s₁) s)
    (he : eval (.Call func args [] pos) env = (do callWith pos (← eval func env) [] (backTo pos (starEach args env)) (backToKw pos (keywordEach [] env))) := by with_unfolding_all rfl) :
    WP w A (eval (.Call func args [] pos) env) Q s := Call_ x he
theorem sp_nil {pos : Pos} {Q : List Value → Shared → Prop} (x : Q [] s) : WP w A (spliced (backTo pos (starEach [] env))) Q s := spliced_none x
theorem sp_cons {e : Expr} {rest : List Expr} {pos : Pos} {Q : List Value → Shared → Prop}
    (x : WP w A (eval e env) (fun v s₁ => WP w A (spliced (backTo pos (starEach rest env))) (fun vs s₂ => Q (v :: vs) s₂) s₁) s)
    (he : starEach (e :: rest) env = (false, eval e env) :: starEach rest env := by with_unfolding_all rfl) : WP w A (spliced (backTo pos (starEach (e :: rest) env))) Q s := spliced_more x he
end
section
variable {w : World} {A : Around} {gs : Array GenState} {dr : Drawn} {os : OsState} {g h : Heap} {L : Addr} {t : Nat} {v : Value} {qual : Str} {sc : Scope} {f : Addr} {cd : Value} {m : Str → Option Value} {news : List (Addr × Obj)} {x : Str} {pos : Pos} {env : Env}
-- texts
theorem o_len_str {x : Str} {tk : Tok} {Q : Value → Shared → Prop} (hx : x.length ≤ 1000000) (y : ∀ tv t', Q (.int x.length tv) ⟨h, gs, dr, t', os⟩) : WP w A (call (.builtin "len") [.str x tk]) Q ⟨h, gs, dr, t, os⟩ :=
  P.len_str (by (first|lia|omega)) (y _ _)
noncomputable def SliceK (o vl vu : Value) (Q : Value → Shared → Prop) (s : Shared) : Prop :=
  ∃ x t l u, o = .str x t ∧ vl = partValue l ∧ vu = partValue u ∧ x.length ≤ 1000000 ∧ ∀ tv t', Q (.str (Txt.slice x (l.map (·.1)) (u.map (·.1))) tv) ⟨s.heap.push { cls := .type "slice", data := .fields #[vl, vu, .none] }, s.gens, s.drawn, t', s.os⟩
theorem e_slice_str {value : Expr} {lower upper : Option Expr} {p : Pos} {Q : Value → Shared → Prop}
    (y : WP w A (eval value env) (fun o s₁ => WP w A (evalPart lower env) (fun vl s₂ => WP w A (evalPart upper env) (fun vu s₃ => SliceK o vl vu Q s₃) s₂) s₁) ⟨h, gs, dr, t, os⟩)
    (ht : ∀ o r, letTemporaryGo value o r = pure () := by intro _ _; with_unfolding_all rfl) : WP w A (eval (.Subscript value (.Slice lower upper none p) pos) env) Q ⟨h, gs, dr, t, os⟩ := by
  refine wpAny_Subscript_str_slice (wpAny_mono y (fun o s₁ y => wpAny_mono y (fun vl s₂ y => wpAny_mono y (fun vu s₃ y => ?_) fun _ _ e => e) fun _ _ e => e) fun _ _ e => e) ht
  obtain ⟨x, t, l, u, rfl, rfl, rfl, hx, y⟩ := y
  refine ⟨x, t, l, u, rfl, rfl, rfl, ?_⟩
  unfold sliceMade
  exact post_val_or_str ⟨Nat.le_trans (Txt.slice_le x _ _) (Nat.le_trans hx (by decide)), fun t' k => y t' k⟩
theorem o_slice_to {x : Str} {tk u : Tok} {p : Int} {Q : Value → Shared → Prop} (hx : x.length ≤ 1000000) (H : Hp g L h m news) (y : ∀ h' tv t', Hp g L h' m news → Q (.str (Txt.slice x none (some p)) tv) ⟨h', gs, dr, t', os⟩) :
    SliceK (.str x tk) .none (.int p u) Q ⟨h, gs, dr, t, os⟩ := ⟨x, tk, none, some (p, u), rfl, rfl, rfl, hx, fun tv t' => y _ tv t' ((H.push _).drop 0)⟩
theorem o_slice_from {x : Str} {tk u : Tok} {p : Int} {Q : Value → Shared → Prop} (hx : x.length ≤ 1000000) (H : Hp g L h m news) (y : ∀ h' tv t', Hp g L h' m news → Q (.str (Txt.slice x (some p) none) tv) ⟨h', gs, dr, t', os⟩) :
    SliceK (.str x tk) (.int p u) .none Q ⟨h, gs, dr, t, os⟩ := ⟨x, tk, some (p, u), none, rfl, rfl, rfl, hx, fun tv t' => y _ tv t' ((H.push _).drop 0)⟩
theorem o_slice_both {x : Str} {tk u u' : Tok} {p q : Int} {Q : Value → Shared → Prop} (hx : x.length ≤ 1000000) (H : Hp g L h m news) (y : ∀ h' tv t', Hp g L h' m news → Q (.str (Txt.slice x (some p) (some q)) tv) ⟨h', gs, dr, t', os⟩) :
    SliceK (.str x tk) (.int p u) (.int q u') Q ⟨h, gs, dr, t, os⟩ := ⟨x, tk, some (p, u), some (q, u'), rfl, rfl, rfl, hx, fun tv t' => y _ tv t' ((H.push _).drop 0)⟩
theorem p_none {Q : Value → Shared → Prop} {s : Shared} (y : Q .none s) : WP w A (evalPart none env) Q s := wpAny_pure y
theorem p_some {e : Expr} {Q : Value → Shared → Prop} {s : Shared} (y : WP w A (eval e env) Q s) : WP w A (evalPart (some e) env) Q s := y
theorem e_tuple {elts : List Expr} {k : Nat} {Q : Value → Shared → Prop} (H : Hp g L h m news)
    (x : WP w A (spliced (backTo pos (starEach elts env))) (fun vs s₁ => WP w A (newTuple vs) Q s₁) ⟨h, gs, dr, t, os⟩) : WP w A (eval (.Tuple elts k pos) env) Q ⟨h, gs, dr, t, os⟩ := Tuple_ x
theorem n_tuple {vs : List Value} {Q : Value → Shared → Prop} (H : Hp g L h m news)
    (y : ∀ a h', Hp g L h' m ((a, ({ cls := .type "tuple", data := .seq vs.toArray } : Obj)) :: news) → Ext h h' → h'.objs.size = h.objs.size + 1 → a = h.objs.size → Q (.ref a) ⟨h', gs, dr, t, os⟩) (hsz : vs.length ≤ sizeLine := by apply Nat.le_of_ble_eq_true; with_unfolding_all rfl) : WP w A (newTuple vs) Q ⟨h, gs, dr, t, os⟩ :=
  wpAny_newObj_type (y _ _ (H.push _) (fun _ _ e => Heap.get?_push_of_some _ e) (Heap.size_push ..) rfl) (by show vs.toArray.size ≤ sizeLine; rw [List.size_toArray]; exact hsz)
end
-- the shortened text, as Python makes it
noncomputable def shortS (x : Str) (skip : Int) (p sl : Int) : Str := ⟨(Txt.slice x none (some p)).cps ++ (Str.ofString "[").cps ++ (Str.ofString (toString skip)).cps ++ (Str.ofString " chars]").cps ++ (Txt.slice x (some sl) none).cps⟩
theorem lk_28 (P : Params) : (KF P).lookup 28 = some (o28 P) := by kernel_rfl!
theorem cd_28 (P : Params) : codeIn (KF P) (.ref 27) (Str.ofString "_shorten") = true := by kernel_rfl!
theorem mem_erase_of {a : Addr} {o : Obj} : ∀ (l : List (Addr × Obj)) (i : Nat), l[i]? = some (a, o) → (l.map (·.1)).Nodup → ∀ p ∈ l.eraseIdx i, p.1 ≠ a
  | [], i, e, _, p, hp => by simp at e
  | q :: l, 0, e, nd, p, hp => by
    simp at e; subst e
    exact fun z => (List.nodup_cons.mp nd).1 (List.mem_map.mpr ⟨p, by simpa using hp, z⟩)
  | q :: l, i + 1, e, nd, p, hp => by
    simp at e
    rcases List.mem_cons.mp hp with rfl | hp
    · exact fun z => (List.nodup_cons.mp nd).1 (List.mem_map.mpr ⟨_, List.mem_of_getElem? e, z.symm⟩)
    · exact mem_erase_of l i e (List.nodup_cons.mp nd).2 p hp
theorem Hp.lose {g h h' : Heap} {L a : Addr} {o : Obj} {m : Str → Option Value} {news : List (Addr × Obj)} (H : Hp g L h m news) (i : Nat) (e : news[i]? = some (a, o)) (k : ExtB a h h') : Hp g L h' m (news.eraseIdx i) := by
  have ha := H.ne i e
  have hn := H.new i e
  obtain ⟨oL, es, ep, hL, r⟩ := H.F.ns
  refine ⟨⟨⟨oL, es, ep, k _ _ ha.symm hL, r⟩, fun b x q => k _ _ (fun z => by rw [z, hn] at q; cases q) (H.F.keep b x q), H.F.above⟩, fun p hp => ?_, (H.drop i).nd⟩
  have := (H.drop i).N p hp
  exact ⟨k _ _ (mem_erase_of news i e H.nd p hp) this.1, this.2⟩
noncomputable abbrev bmObj (id : String) (self : Value) : Obj := { cls := .type "builtin_function_or_method", data := .fields #[.builtin id, self] }
noncomputable def argsOkB (id full : String) (args : Args) : Prop := (match Manifest.signature? id with | some sig => Bind.checkArgs id { sig with full := full } args | none => pure ()) = pure ()
theorem okB_dict_get (a b c : Value) : argsOkB "dict.get" s!"{Bind.lastOf "dict"}.{Bind.lastOf "dict.get"}" ⟨[a, b, c], []⟩ := by
  unfold argsOkB; kernel_rfl
theorem okB_set_contains (a b : Value) : argsOkB "set.__contains__" s!"{Bind.lastOf "set"}.{Bind.lastOf "set.__contains__"}" ⟨[a, b], []⟩ := by
  unfold argsOkB; kernel_rfl
theorem kd_dict_get : builtinKind "dict.get" = some .method := by decide +kernel
theorem kd_set_contains : builtinKind "set.__contains__" = some .method := by decide +kernel
theorem sub_dict_mod : isSubtype (.type "dict") (.type "module") = pure false := by rw [isSubtype_type]; kernel_rfl
theorem sub_set_mod : isSubtype (.type "set") (.type "module") = pure false := by rw [isSubtype_type]; kernel_rfl
theorem va_dict_get : Manifest.varargsMethods.contains "dict.get" = false := by decide +kernel
theorem va_set_contains : Manifest.varargsMethods.contains "set.__contains__" = false := by decide +kernel
section
variable {w : World} {A : Around} {s : Shared}
theorem check_bound {a : Addr} {o : Obj} {T id : String} {rest : List Value} {Q : Unit → Shared → Prop} (ho : s.heap.get? a = some o) (hc : o.cls = .type T) (hd : ∀ c, o.data ≠ .cls c) (hk : builtinKind id = some .method)
    (hv : Manifest.varargsMethods.contains id = false) (hm : isSubtype (.type T) (.type "module") = pure false) (ha : argsOkB id s!"{Bind.lastOf T}.{Bind.lastOf id}" ⟨.ref a :: rest, []⟩) (y : Q () s) :
    WP w A (checkBoundCall id ⟨.ref a :: rest, []⟩) Q s := by
  unfold checkBoundCall
  unfold argsOkB at ha
  cases hsig : Manifest.signature? id with
  | none => exact wpAny_pure y
  | some sig =>
    rw [hsig] at ha
    dsimp only at ha ⊢
    rw [hk]
    dsimp only
    rw [if_neg (by decide)]
    refine wpAny_bind (wpAny_isInstance (T := T) ⟨o, ho, hc⟩ hm ?_)
    rw [hv]
    rw [if_neg (by decide)]
    refine wpAny_bind ?_
    unfold isType loadHead
    refine wpAny_bind (wpAny_bind (wpAny_loadPart ho (wpAny_pure ?_)))
    refine wpAny_of_eq (a := false) (by cases q : o.data <;> first | rfl | exact absurd q (hd _)) ?_
    rw [if_neg (by decide)]
    refine wpAny_bind (wpAny_typeOf (T := T) ⟨o, ho, hc⟩ ?_)
    dsimp only
    exact wpAny_of_eq ha y
theorem call_bm {q : Addr} {id : String} {self : Value} {args : List Value} {Q : Value → Shared → Prop} {b : Builtin} (ho : s.heap.get? q = some (bmObj id self)) (hp : plainId id = true) (he : entryFor table id = some b)
    (x : WP w A.in1 (checkBoundCall id ⟨self :: args, []⟩) (fun _ s₁ => wpAny (model pw w) A.in1 (b ⟨self :: args, []⟩)
      (fun fin s' => match fin with | .done f => wants Q (fun _ _ => False) (.ok f) s' | .again c' => c'.quiet = true ∧ codeAny (model pw w) A c' (wants Q (fun _ _ => False)) s') (fun e s' => False) s₁) s) : WP w A (call (.ref q) args) Q s := by
  refine wpAny_call (codeAny_of_tree ?_)
  show wpAny _ A.in1 (callAny (.ref q) ⟨args, []⟩) _ _ s
  unfold callAny
  refine wpAny_bind (wpAny_load ho ?_)
  dsimp only
  rw [if_pos (by decide)]
  refine wpAny_bind (wpAny_mono x (fun _ s₁ x => ?_) fun _ _ e => e)
  refine wpAny_bind (wpAny_pure (wpAny_pure ?_))
  refine ⟨plainId_quiet hp _, codeAny_builtin he ?_⟩
  rw [Around.under_plainId hp _]
  exact x
-- `j2lenget(key, default)`
theorem call_bm_get {K : Type} [DecidableEq K] {knd : KeyKind pw w K} {q d : Addr} {key dflt : Value} {k : K} {f : K → Option Value} {Q : Value → Shared → Prop} (ho : s.heap.get? q = some (bmObj "dict.get" (.ref d))) (hkey : knd.is k key = true) (hm : s.heap.MapOf knd d f) (hd : (d == sysModules) = false)
    (y : Q ((f k).getD dflt) { s with toks := s.toks + 1 }) : WP w A (call (.ref q) [key, dflt]) Q s := by
  obtain ⟨o, es, ep, h1, h2, h3, h4⟩ := id hm
  refine call_bm ho F.slot_dict_get.plain F.entry_dict_get (check_bound h1 h2.1 (fun c e => by rw [h3] at e; cases e) kd_dict_get va_dict_get sub_dict_mod (okB_dict_get _ _ _) ?_)
  exact meets_dict_get_default knd d hkey hd dflt A (wants Q fun _ _ => False) s ⟨f, hm, y⟩
end
noncomputable def IsLI (o : Obj) (l : Addr) (i : Nat) : Prop := o.cls = .type "list_iterator" ∧ o.data = .fields #[.ref l, .int i 0]
noncomputable def IsL (o : Obj) (items : Array Value) : Prop := o.cls = .type "list" ∧ ∃ n, o.data = .seq items n
noncomputable abbrev riObj (x left : Int) : Obj := { cls := .type "range_iterator", dict := none, data := .fields #[rawInt x, rawInt left, rawInt 1], slots := #[] }
noncomputable def IsMp {w : World} {K : Type} [DecidableEq K] (knd : KeyKind pw w K) (o : Obj) (f : K → Option Value) : Prop := ∃ es ep, o.ExactDict ∧ o.data = .dict es ep ∧ KeysOf knd es ∧ ∀ k, findBy knd.is es k = f k
theorem mp_iff {w : World} {K : Type} [DecidableEq K] {knd : KeyKind pw w K} {h : Heap} {a : Addr} {f : K → Option Value} : h.MapOf knd a f ↔ ∃ o, h.get? a = some o ∧ IsMp knd o f :=
  ⟨fun ⟨o, es, ep, ho, r⟩ => ⟨o, ho, es, ep, r⟩, fun ⟨o, ho, es, ep, r⟩ => ⟨o, es, ep, ho, r⟩⟩
theorem mp_new {w : World} {K : Type} [DecidableEq K] {knd : KeyKind pw w K} : IsMp knd { cls := .type "dict", data := .dict #[] } (fun _ => none) :=
  ⟨#[], 0, ⟨rfl, rfl, rfl⟩, rfl, fun _ he => by simp at he, fun _ => rfl⟩
section
variable {w : World} {A : Around} {gs : Array GenState} {dr : Drawn} {os : OsState} {g h : Heap} {L : Addr} {t : Nat} {m : Str → Option Value} {news : List (Addr × Obj)} {pos : Pos} {env : Env}
-- the for statement
noncomputable def ForK (w : World) (A : Around) (env : Env) (target : Expr) (body : List Stmt) (it : Value) (Q : Flow → Shared → Prop) (s : Shared) : Prop :=
  codeAny (model pw w) A (.forLoop target it body [] env) (fun r s' => match r with | .ok f => Q f s' | .error e => cameBackBy (model pw w) A env (fun _ _ => False) e s') s
theorem r_for {target iter : Expr} {body : List Stmt} {Q : Flow → Shared → Prop} {s : Shared} (x : WP w A (eval iter env) (fun v s₁ => WP w A (pyIter v) (fun it s₂ => ForK w A env target body it Q s₂) s₁) s)
    (hs : ∀ x, foldedSetIterable iter env x = pure x := by intro _; with_unfolding_all rfl) : WP w A (exec (.For target iter body [] pos) env) Q s := wpAny_For x hs
theorem for_inv {target : Expr} {body : List Stmt} {it : Value} {Q : Flow → Shared → Prop} {s : Shared} (I : Nat → Shared → Prop)
    (turn : ∀ n s (C : Shared → Prop), (∀ m s₃, m < n → I m s₃ → C s₃) → I n s → WP w A (pyNext it) (fun r s₁ => match r with
      | none => Q .next s₁
      | some v => WP w A (assign target env v) (fun _ s₂ => WP w A (execs body env) (Turn C (fun s₃ => Q .next s₃) Q) s₂) s₁) s)
    (n : Nat) (h : I n s) (hg : ∀ v, letOwnedTupleGo target it v = pure () := by intro _; with_unfolding_all rfl) : ForK w A env target body it Q s := by
  unfold ForK
  refine codeAny_forLoop_any I (fun n s hI => ?_) n h
  refine wpAny_mono (turn n s (fun s₃ => ∃ m, m < n ∧ I m s₃) (fun m s₃ lt x => ⟨m, lt, x⟩) hI) (fun r s₁ y => ?_) (fun _ _ e => e.elim)
  cases r with
  | none => exact wpAny_execs_nil y
  | some v =>
    dsimp only at y ⊢
    rw [hg v]
    refine wpAny_pure (wpAny_mono y (fun _ s₂ y => wpAny_mono y (fun f s₃ y => ?_) (fun _ _ e => e.elim)) (fun _ _ e => e.elim))
    cases f <;> exact y
theorem a_name {x : Str} {p : Pos} {v : Value} {Q : Unit → Shared → Prop} {s : Shared} (y : WP w A (storeName env x v) Q s) : WP w A (assign (.Name x p) env v) Q s := assign_Name y
-- lists and ranges
theorem it_list {l : Addr} {items : Array Value} {Q : Value → Shared → Prop} (H : Hp g L h m news) (hl : h.IsList l items)
    (y : ∀ it h' o, IsLI o l 0 → Hp g L h' m ((it, o) :: news) → Q (.ref it) ⟨h', gs, dr, t, os⟩) : WP w A (pyIter (.ref l)) Q ⟨h, gs, dr, t, os⟩ :=
  wpAny_pyIter_list hl (y _ _ _ ⟨rfl, rfl⟩ (H.push _))
theorem nx_list {it l : Addr} {o : Obj} {k : Nat} {items : Array Value} {x : Value} {Q : Option Value → Shared → Prop} (i : Nat) (H : Hp g L h m news) (e : news[i]? = some (it, o)) (ho : IsLI o l k) (hl : h.IsList l items) (hx : items[k]? = some x)
    (y : ∀ h' o', IsLI o' l (k + 1) → Hp g L h' m (news.set i (it, o')) → Q (some x) ⟨h', gs, dr, t, os⟩) : WP w A (pyNext (.ref it)) Q ⟨h, gs, dr, t, os⟩ :=
  wpAny_pyNext_list_item ⟨o, H.at i e, ho.1, ho.2⟩ hl hx fun h' ⟨o', q, r⟩ hs => y h' o' r (H.put i e hs q)
theorem nx_list_end {it l : Addr} {o : Obj} {k : Nat} {items : Array Value} {Q : Option Value → Shared → Prop} (i : Nat) (hh : A.handled = none) (H : Hp g L h m news) (e : news[i]? = some (it, o)) (ho : IsLI o l k) (hl : h.IsList l items) (hx : items[k]? = none)
    (y : ∀ h', Hp g L h' m (news.eraseIdx i) → Q none ⟨h', gs, dr, t, os⟩) : WP w A (pyNext (.ref it)) Q ⟨h, gs, dr, t, os⟩ :=
  wpAny_pyNext_list_end hh ⟨o, H.at i e, ho.1, ho.2⟩ hl hx fun h' hs => y h' (H.lose i e fun b o hb q => hs b o hb q)
noncomputable abbrev rgObj (a b : Int) (u v x : Tok) : Obj := { cls := .type "range", dict := none, data := .fields #[.int a u, .int b v, .int 1 x], slots := #[] }
theorem o_range {a b : Int} {ta tb : Tok} {Q : Value → Shared → Prop} (H : Hp g L h m news) (y : ∀ r h' t' u v x, Hp g L h' m ((r, rgObj a b u v x) :: news) → Q (.ref r) ⟨h', gs, dr, t', os⟩) : WP w A (call (.type "range") [.int a ta, .int b tb]) Q ⟨h, gs, dr, t, os⟩ :=
  call_range_2 (y _ _ _ _ _ _ (H.push _))
theorem it_range {r : Addr} {a b : Int} {u v x : Tok} {Q : Value → Shared → Prop} (H : Hp g L h m ((r, rgObj a b u v x) :: news)) (h1 : -1000000 ≤ a) (h2 : a ≤ 1000000) (h3 : -1000000 ≤ b) (h4 : b ≤ 1000000)
    (y : ∀ it h', Hp g L h' m ((it, riObj a ((b - a).toNat : Int)) :: news) → Q (.ref it) ⟨h', gs, dr, t, os⟩) : WP w A (pyIter (.ref r)) Q ⟨h, gs, dr, t, os⟩ := by
  have hsz : Builtin.Range.rangeSize a b 1 = ((b - a).toNat : Int) := by rw [rangeSize_one]; split <;> (first|lia|omega)
  refine wpAny_pyIter_range (H.at 0 rfl) (small_one (by (first|lia|omega)) (by (first|lia|omega)) (by (first|lia|omega)) (by (first|lia|omega))) (y _ _ ?_)
  rw [hsz]
  exact (H.push _).drop 1
theorem nx_range {it : Addr} {x left : Int} {Q : Option Value → Shared → Prop} (i : Nat) (H : Hp g L h m news) (e : news[i]? = some (it, riObj x left)) (hl : 0 < left)
    (y : ∀ h' t' tv, Hp g L h' m (news.set i (it, riObj (x + 1) (left - 1))) → Q (some (.int x tv)) ⟨h', gs, dr, t', os⟩) : WP w A (pyNext (.ref it)) Q ⟨h, gs, dr, t, os⟩ :=
  wpAny_pyNext_range_item (H.at i e) hl fun h' r hs => y h' _ _ (H.put i e hs r)
theorem nx_range_end {it : Addr} {x left : Int} {Q : Option Value → Shared → Prop} (i : Nat) (hh : A.handled = none) (H : Hp g L h m news) (e : news[i]? = some (it, riObj x left)) (hl : left ≤ 0)
    (y : ∀ h', Hp g L h' m (news.eraseIdx i) → Q none ⟨h', gs, dr, t, os⟩) : WP w A (pyNext (.ref it)) Q ⟨h, gs, dr, t, os⟩ :=
  wpAny_pyNext_range_end hh (H.at i e) hl fun h' hs => y h' (H.lose i e fun b o hb q => hs b o hb q)
-- dicts whose keys are ints, lists
-- a dict of ints, of n entries at most
noncomputable def IM (w : World) (o : Obj) (f : Int → Option Value) (n : Nat) : Prop := ∃ kvs, o.IsDictOf (intKind pw w) kvs ∧ (∀ k, valueAt kvs k = f k) ∧ kvs.length ≤ n
theorem valueAt_stored {K : Type} [DecidableEq K] {kvs : List (K × Value)} (k : K) (v : Value) (x : K) : valueAt (stored kvs k v) x = if x = k then some v else valueAt kvs x := by
  unfold stored
  split
  · rename_i h
    induction kvs with
    | nil => simp at h
    | cons p kvs ih =>
      unfold valueAt at ih ⊢
      simp only [List.map_cons, List.find?_cons]
      by_cases q : p.1 = k
      · subst q
        simp only [if_true]
        by_cases z : p.1 = x
        · subst z; simp
        · have z' : ¬ x = p.1 := fun e => z e.symm
          simp only [z, decide_false, z', if_false]
          by_cases hr : kvs.any (fun kv => kv.1 = p.1)
          · have := ih hr; rw [if_neg z'] at this; exact this
          · have : kvs.map (fun kv => if kv.1 = p.1 then (kv.1, v) else kv) = kvs := by
              conv => rhs; rw [← List.map_id kvs]
              refine List.map_congr_left fun kv hkv => ?_
              have : ¬ kv.1 = p.1 := fun e => hr (List.any_eq_true.mpr ⟨kv, hkv, by simpa using e⟩)
              simp [this]
            rw [this]
      · simp only [q, if_false]
        have hr : kvs.any (fun kv => kv.1 = k) = true := by
          simp only [List.any_cons, q, decide_false, Bool.false_or] at h; exact h
        by_cases z : p.1 = x
        · subst z; simp [q]
        · simp only [z, decide_false]; exact ih hr
  · rename_i h
    unfold valueAt
    rw [List.find?_append]
    by_cases z : x = k
    · subst z
      have : kvs.find? (fun kv => kv.1 = x) = none := by
        rw [List.find?_eq_none]
        intro kv hkv e
        exact h (List.any_eq_true.mpr ⟨kv, hkv, e⟩)
      simp [this]
    · have z' : ¬ k = x := fun e => z e.symm
      cases q : kvs.find? (fun kv => kv.1 = x) <;> simp [z', z]
theorem im_new : IM w { cls := .type "dict", data := .dict #[] } (fun _ => none) 0 := by
  obtain ⟨o, ho, hd⟩ := Heap.dictOf_iff.mp (Heap.DictOf.new (knd := intKind pw w) default)
  rw [Heap.get?_push_size _ rfl] at ho
  cases ho
  exact ⟨[], hd, fun _ => rfl, Nat.le_refl _⟩
theorem e_dictN {Q : Value → Shared → Prop} (H : Hp g L h m news) (y : ∀ a h' o, a = h.objs.size → IM w o (fun _ => none) 0 → Hp g L h' m ((a, o) :: news) → Q (.ref a) ⟨h', gs, dr, t, os⟩) : WP w A (eval (.Dict [] [] pos) env) Q ⟨h, gs, dr, t, os⟩ :=
  wpAny_Dict_empty (y _ _ _ rfl im_new (H.push _))
theorem e_dict {Q : Value → Shared → Prop} (H : Hp g L h m news) (y : ∀ a h' o, IM w o (fun _ => none) 0 → Hp g L h' m ((a, o) :: news) → Q (.ref a) ⟨h', gs, dr, t, os⟩) : WP w A (eval (.Dict [] [] pos) env) Q ⟨h, gs, dr, t, os⟩ :=
  wpAny_Dict_empty (y _ _ _ im_new (H.push _))
theorem IM.map {a : Addr} {o : Obj} {f : Int → Option Value} {n : Nat} (x : IM w o f n) (ho : h.get? a = some o) : h.MapOf (intKind pw w) a f := by
  obtain ⟨kvs, hd, hf, _⟩ := x
  have := (Heap.dictOf_iff.mpr ⟨o, ho, hd⟩).mapOf
  rwa [show valueAt kvs = f from funext hf] at this
theorem s_int {d : Addr} {o : Obj} {f : Int → Option Value} {n : Nat} {k : Int} {tk : Tok} {v : Value} {Q : Unit → Shared → Prop} (i : Nat) (H : Hp g L h m news) (e : news[i]? = some (d, o)) (x : IM w o f n) (hn : n ≤ 100000)
    (y : ∀ h' t' o', IM w o' (fun z => if z = k then some v else f z) (n + 1) → Hp g L h' m (news.set i (d, o')) → Q () ⟨h', gs, dr, t', os⟩) : WP w A (setItem (.ref d) (.int k tk) v) Q ⟨h, gs, dr, t, os⟩ := by
  obtain ⟨kvs, hd, hf, hl⟩ := x
  refine wpAny_setItem_pairs (knd := intKind pw w) (intKind_is pw w k tk) (Heap.dictOf_iff.mpr ⟨o, H.at i e, hd⟩) (fun h' hm hs => ?_) (Nat.le_trans hl (Nat.le_trans hn (by decide)))
  obtain ⟨o', ho', hd'⟩ := Heap.dictOf_iff.mp hm
  exact y h' _ o' ⟨_, hd', fun z => by rw [valueAt_stored, hf], Nat.le_trans (stored_length_le ..) (Nat.succ_le_succ hl)⟩ (H.put i e hs ho')
theorem e_list0 {Q : Value → Shared → Prop} (H : Hp g L h m news) (y : ∀ a h' o, IsL o #[] → Hp g L h' m ((a, o) :: news) → Q (.ref a) ⟨h', gs, dr, t, os⟩) : WP w A (eval (.List [] pos) env) Q ⟨h, gs, dr, t, os⟩ :=
  List_ (sp_nil (wpAny_newObj_type (y _ _ _ ⟨rfl, _, rfl⟩ (H.push _)) (Nat.zero_le _)))
end
section
variable {w : World} {A : Around} {gs : Array GenState} {dr : Drawn} {os : OsState} {g h : Heap} {L : Addr} {t : Nat} {m : Str → Option Value} {news : List (Addr × Obj)} {pos : Pos} {env : Env} {s : Shared}
-- tests
theorem t_not {x : Expr} {whole : Sem Value} {Q : Bool → Shared → Prop} (y : WP w A (isTrue x env (eval x env)) (fun b s' => Q (!b) s') s) : WP w A (isTrue (.UnaryOp .Not x pos) env whole) Q s := wpAny_isTrue_Not y
noncomputable def AndK (w : World) (A : Around) (env : Env) (rest : List Expr) (Q : Bool → Shared → Prop) (b : Bool) (s : Shared) : Prop := if b then WP w A (allTrue .And rest env) Q s else Q false s
theorem t_and {es : List Expr} {whole : Sem Value} {Q : Bool → Shared → Prop} (y : WP w A (allTrue .And es env) Q s) : WP w A (isTrue (.BoolOp .And es pos) env whole) Q s := y
theorem a_cons {x : Expr} {rest : List Expr} {Q : Bool → Shared → Prop} (y : WP w A (isTrue x env (eval x env)) (AndK w A env rest Q) s) : WP w A (allTrue .And (x :: rest) env) Q s := by
  refine isTrue_and (pos := default) (whole := pure .none) (wpAny_mono y (fun c s' z => ?_) fun _ _ e => e)
  cases c <;> exact z
theorem a_nil {Q : Bool → Shared → Prop} (y : Q true s) : WP w A (allTrue .And [] env) Q s := wpAny_pure y
theorem k_true {rest : List Expr} {Q : Bool → Shared → Prop} (y : WP w A (allTrue .And rest env) Q s) : AndK w A env rest Q true s := y
theorem k_false {rest : List Expr} {Q : Bool → Shared → Prop} (y : Q false s) : AndK w A env rest Q false s := y
-- a test that is no comparison, no `not`, no `and`
theorem t_other {e : Expr} {Q : Bool → Shared → Prop} (y : WP w A (eval e env) (fun v s₁ => WP w A (truthy v) Q s₁) s) (he : isTrue e env (eval e env) = (do let v ← eval e env; standAt e.pos; holding [v] (truthy v)) := by with_unfolding_all rfl) :
    WP w A (isTrue e env (eval e env)) Q s := by
  rw [he]
  exact wpAny_bind (wpAny_mono y (fun v s₁ y => wpAny_bind (wpAny_standAt (wpAny_holding y))) fun _ _ e => e)
theorem t_int {i : Int} {tk : Tok} {Q : Bool → Shared → Prop} (y : Q (i != 0) s) : WP w A (truthy (.int i tk)) Q s := PyProof.Rows.truthy_int y
theorem t_none {Q : Bool → Shared → Prop} (y : Q false s) : WP w A (truthy .none) Q s := wpAny_of_eq (a := false) rfl y
theorem t_str {x : Str} {tk : Tok} {Q : Bool → Shared → Prop} (hx : x.length ≤ 1000000) (y : ∀ t', Q ((x.length : Int) != 0) ⟨h, gs, dr, t', os⟩) : WP w A (truthy (.str x tk)) Q ⟨h, gs, dr, t, os⟩ := P.truthy_str (by (first|lia|omega)) (y _)
-- identity
theorem is_none {Q : Value → Shared → Prop} (y : Q (.bool true) s) : WP w A (compareOp .Is .none .none) Q s := by
  refine wpAny_of_eq (a := .bool true) ?_ y
  rfl
theorem isn_none {Q : Value → Shared → Prop} (y : Q (.bool false) s) : WP w A (compareOp .IsNot .none .none) Q s := by
  refine wpAny_of_eq (a := .bool false) ?_ y
  rfl
-- items of a text
theorem e_sub {value slice : Expr} {Q : Value → Shared → Prop} (y : WP w A (eval value env) (fun o s₁ => WP w A (eval slice env) (fun i s₂ => WP w A (subscriptTail value slice o i) Q s₂) s₁) s) : WP w A (eval (.Subscript value slice pos) env) Q s := Subscript_ y
theorem x_str {value slice : Expr} {x : Str} {tk u : Tok} {i : Int} {c : Nat} {Q : Value → Shared → Prop} (h0 : 0 ≤ i) (hc : x.cps[i.toNat]? = some c) (hx : x.length ≤ 1000000)
    (y : ∀ tv t', Q (.str ⟨#[c]⟩ tv) ⟨h, gs, dr, t', os⟩)
    (hs : subscripted slice false (.str x tk) (.int i u) = operate [.str x tk, .int i u] (getItem (.str x tk) (.int i u)) := by with_unfolding_all rfl) (hg : ∀ r, letTemporaryGo value (.str x tk) r = pure () := by intro _; with_unfolding_all rfl) :
    WP w A (subscriptTail value slice (.str x tk) (.int i u)) Q ⟨h, gs, dr, t, os⟩ := by
  have hlt : i.toNat < x.length := (Array.getElem?_eq_some_iff.mp hc).1
  refine subscriptTail_builtin (T := "str") (typeIs_str _ _ _) F.slot_str_getitem.lookup (P.getItem_str (c := c) ?_ ?_ (y _ _)) hs hg
  · have h1 : ¬ i < -(2 ^ 63 : Int) := by (first|lia|omega)
    have h2 : ¬ i ≥ 2 ^ 63 := by have : (i.toNat : Int) = i := Int.toNat_of_nonneg h0; (first|lia|omega)
    rw [decide_eq_false h1, decide_eq_false h2]; rfl
  · have : seqIndex? i x.length = some i.toNat := by
      unfold seqIndex?
      have h2 : i < x.length := by have : (i.toNat : Int) = i := Int.toNat_of_nonneg h0; (first|lia|omega)
      simp only [show ¬ i < 0 by (first|lia|omega), if_false, h0, h2, decide_true, Bool.and_self, if_true]
    rw [this]; exact hc
-- names unpacked
noncomputable def StN (w : World) (A : Around) (env : Env) (P : Shared → Prop) : List Str → List Value → Shared → Prop
  | x :: xs, v :: vs, s => WP w A (storeName env x v) (fun _ s' => StN w A env P xs vs s') s
  | [], [], s => P s
  | _, _, _ => False
theorem stn_cons {P : Shared → Prop} {x : Str} {xs : List Str} {v : Value} {vs : List Value} (y : WP w A (storeName env x v) (fun _ s' => StN w A env P xs vs s') s) : StN w A env P (x :: xs) (v :: vs) s := y
theorem stn_nil {P : Shared → Prop} (y : P s) : StN w A env P [] [] s := y
theorem in_order {P : Unit → Shared → Prop} : ∀ {xs : List Str} {vs : List Value} {s : Shared}, StN w A env (P ()) xs vs s → WP w A (assignInOrder (xs.map fun x => bindName env x) vs) P s
  | [], [], s, y => wpAny_pure y
  | [], _ :: _, s, y => y.elim
  | _ :: _, [], s, y => y.elim
  | x :: xs, v :: vs, s, y => by
    show WP w A (do holding vs (bindName env x v); assignInOrder (xs.map fun x => bindName env x) vs) P s
    exact wpAny_bind (wpAny_holding (wpAny_bindName (wpAny_mono y (fun _ s' y => in_order y) fun _ _ e => e)))
theorem in_orderA {P : Unit → Shared → Prop} : ∀ {xs : List (Str × Pos)} {vs : List Value} {s : Shared}, StN w A env (P ()) (xs.map (·.1)) vs s → WP w A (assignInOrder (xs.map fun x => assign (.Name x.1 x.2) env) vs) P s
  | [], [], s, y => wpAny_pure y
  | [], _ :: _, s, y => y.elim
  | _ :: _, [], s, y => y.elim
  | x :: xs, v :: vs, s, y => by
    show WP w A (do holding vs (assign (.Name x.1 x.2) env v); assignInOrder (xs.map fun x => assign (.Name x.1 x.2) env) vs) P s
    exact wpAny_bind (wpAny_holding (assign_Name (wpAny_mono y (fun _ s' y => in_orderA y) fun _ _ e => e)))
-- a tuple that has just been made is taken apart
theorem a_tup {elts : List Expr} {k : Nat} {a : Addr} {vs : List Value} {Q : Unit → Shared → Prop} (xs : List (Str × Pos)) (hh : A.handled = none) (H : Hp g L h m ((a, ({ cls := .type "tuple", data := .seq vs.toArray } : Obj)) :: news))
    (he : (assignEach elts env).map (·.2) = xs.map fun x => assign (.Name x.1 x.2) env) (hn : (assignEach elts env).length = vs.length) (hs : (assignEach elts env).findIdx? (·.1) = none)
    (y : ∀ h', Hp g L h' m news → StN w A env (Q ()) (xs.map (·.1)) vs ⟨h', gs, dr, t, os⟩) : WP w A (assign (.Tuple elts k pos) env (.ref a)) Q ⟨h, gs, dr, t, os⟩ := by
  have ht : IsTup h a vs.toArray := ⟨_, H.at 0 rfl, rfl, _, rfl⟩
  refine assign_Tuple_tuple hh ht (by simpa using hn) hs fun h' k => ?_
  rw [he]
  have H' : Hp g L h' m news := (H.ext (h' := h') fun b o e => k b o (Nat.ne_of_lt (Heap.lt_size e)) e).drop 0
  exact in_orderA (by simpa using y h' H')
theorem r_tup {elts : List Expr} {k : Nat} {tp : Pos} {value : Expr} {P : Shared → Prop} {Q : Flow → Shared → Prop} (y : WP w A (eval value env) (fun v s₁ => WP w A (assign (.Tuple elts k tp) env v) (fun _ s₂ => P s₂) s₁) s)
    (hs : swapsWithSole [.Tuple elts k tp] value pos.line env = pure false := by with_unfolding_all rfl)
    (hw : swappedStores [.Tuple elts k tp] value env = pure none := by with_unfolding_all rfl) : WP w A (exec (.Assign [.Tuple elts k tp] value pos) env) (Seq P Q) s := Assign_Tuple y hs hw
-- `a, b = x, y` and `a, b, c = x, y, z`: the stores go backwards
noncomputable def SwK (w : World) (A : Around) (env : Env) (names : List Str) (P : Shared → Prop) (v : Value) (s : Shared) : Prop :=
  WP w A (unpackItems v names.length none) (fun items s₂ => WP w A (assignInOrder (names.reverse.map fun n => bindName env n) items.reverse) (fun _ s₃ => P s₃) s₂) s
theorem r_swap {elts : List Expr} {k : Nat} {tp : Pos} {value : Expr} {P : Shared → Prop} {Q : Flow → Shared → Prop} (names : List Str) (hw : swappedStores [.Tuple elts k tp] value env = pure (some names)) (y : WP w A (eval value env) (fun v s₁ => SwK w A env names P v s₁) s)
    (hs : swapsWithSole [.Tuple elts k tp] value pos.line env = pure false := by with_unfolding_all rfl) : WP w A (exec (.Assign [.Tuple elts k tp] value pos) env) (Seq P Q) s := Assign_Tuple_swapped y hs hw
theorem k_swap {names : List Str} {P : Shared → Prop} {a : Addr} {vs : List Value} (hh : A.handled = none) (H : Hp g L h m ((a, ({ cls := .type "tuple", data := .seq vs.toArray } : Obj)) :: news)) (hn : vs.length = names.length)
    (y : ∀ h', Hp g L h' m news → StN w A env P names.reverse vs.reverse ⟨h', gs, dr, t, os⟩) : SwK w A env names P (.ref a) ⟨h, gs, dr, t, os⟩ := by
  have ht : IsTup h a vs.toArray := ⟨_, H.at 0 rfl, rfl, _, rfl⟩
  unfold SwK
  have e : names.length = vs.toArray.size := by simpa using hn.symm
  rw [e]
  refine unpackItems_tuple hh ht fun h' k => ?_
  have H' : Hp g L h' m news := (H.ext (h' := h') fun b o e => k b o (Nat.ne_of_lt (Heap.lt_size e)) e).drop 0
  exact in_order (P := fun _ s => P s) (by simpa using y h' H')
-- attributes
theorem e_attr {value : Expr} {attr : Str} {Q : Value → Shared → Prop} (y : WP w A (eval value env) (fun o s₁ => WP w A (getAttr o attr true) (fun r s₂ => WP w A (letTemporaryGo value o r) (fun _ s₃ => Q r s₃) s₂) s₁) s)
    (he : attributeBase value attr env (eval value env) = eval value env := by with_unfolding_all rfl) : WP w A (eval (.Attribute value attr pos) env) Q s := by
  rw [arm_eval_Attribute, he]
  exact wpAny_bind (wpAny_mono y (fun o s₁ y => wpAny_bind (wpAny_standAt (wpAny_bind (wpAny_holding (wpAny_mono y (fun r s₂ y => wpAny_bind (wpAny_mono y (fun _ _ y => wpAny_pure y) fun _ _ e => e)) fun _ _ e => e))))) fun _ _ e => e)
theorem g_name {x : Str} {p : Pos} {o r : Value} {Q : Unit → Shared → Prop} (y : Q () s) : WP w A (letTemporaryGo (.Name x p) o r) Q s := wpAny_pure y
-- while
theorem while_inv {test : Expr} {body : List Stmt} {Q : Flow → Shared → Prop} (I : Nat → Shared → Prop)
    (turn : ∀ n s (C : Shared → Prop), (∀ m s₃, m < n → I m s₃ → C s₃) → I n s → WP w A (isTrue test env (eval test env)) (fun b s₂ => if b then WP w A (execs body env) (Turn C (fun s₃ => Q .next s₃) Q) s₂ else Q .next s₂) s)
    (n : Nat) (y : I n s) : WP w A (exec (.While test body [] pos) env) Q s := by
  refine wpAny_While (codeAny_whileLoop I (fun n s hI => ?_) n y)
  refine wpAny_mono (turn n s (fun s₃ => ∃ m, m < n ∧ I m s₃) (fun m s₃ lt x => ⟨m, lt, x⟩) hI) (fun b s₂ z => ?_) fun _ _ e => e.elim
  cases b with
  | false => exact wpAny_execs_nil z
  | true =>
    refine wpAny_mono z (fun f s₃ z => ?_) fun _ _ e => e.elim
    cases f <;> exact z
-- a while loop whose test fails at once
theorem r_while0 {test : Expr} {body : List Stmt} {P : Shared → Prop} {Q : Flow → Shared → Prop}
    (y : WP w A (isTrue test env (eval test env)) (fun b s₂ => b = false ∧ P s₂) s) : WP w A (exec (.While test body [] pos) env) (Seq P Q) s := by
  refine while_inv (fun n s' => s' = s) (fun n s' _ _ e => ?_) 0 rfl
  subst e
  refine wpAny_mono y (fun b s₂ z => ?_) fun _ _ e => e
  obtain ⟨rfl, z⟩ := z
  exact z
end
-- the quick forms of the table and of the written part
noncomputable def fastT : String → Option Builtin := PySem.W.Fast.tw14364793385576792824
theorem table_eq_fast : table = fastT := table_eq_tree.trans PySem.W.Fast.te14364793385576792824
noncomputable def KT : Params → Frag := PySem.W.Fast.tw14257353632342454357
theorem KT_eq : KF = KT := PySem.W.Fast.te14257353632342454357
theorem sm_plain (P : Params) (x : Str) : plainGet (KF P) 249 x = true := by unfold plainGet; kernel_rfl!
theorem sm_dict (P : Params) : hasDictIn (KF P) 249 = true := by kernel_rfl!
theorem fi_a (P : Params) : findIn (KF P) (.ref 249) (Str.ofString "a") = some none := by kernel_rfl!
theorem fi_b (P : Params) : findIn (KF P) (.ref 249) (Str.ofString "b") = some none := by kernel_rfl!
theorem fi_b2j (P : Params) : findIn (KF P) (.ref 249) (Str.ofString "b2j") = some none := by kernel_rfl!
theorem fi_bjunk (P : Params) : findIn (KF P) (.ref 249) (Str.ofString "bjunk") = some none := by kernel_rfl!
theorem fi_mb (P : Params) : findIn (KF P) (.ref 249) (Str.ofString "matching_blocks") = some none := by kernel_rfl!
theorem fi_op (P : Params) : findIn (KF P) (.ref 249) (Str.ofString "opcodes") = some none := by kernel_rfl!
theorem fi_isjunk (P : Params) : findIn (KF P) (.ref 249) (Str.ofString "isjunk") = some none := by kernel_rfl!
theorem fi_autojunk (P : Params) : findIn (KF P) (.ref 249) (Str.ofString "autojunk") = some none := by kernel_rfl!
theorem fm_flm (P : Params) : findIn (KF P) (.ref 249) (Str.ofString "find_longest_match") = some (some (.ref 203)) := by kernel_rfl!
theorem fn_flm (P : Params) : isFn (KF P) (.ref 203) = true := by kernel_rfl!
noncomputable def dO (es : Array DictEntry) (ep : Nat) : Obj := ⟨.type "dict", none, .dict es ep, #[]⟩
theorem run_dict_get (p : Program) (P : Params) (a n t : Nat) (es : Array DictEntry) (ep : Nat) : run (fun _ => none) fastT ⟨p, P⟩ 400 none n t [some (dO es ep), some (dO es ep), some (dO es ep), some (dO es ep), some (dO es ep), some (dO es ep)] Value (getAttr (.ref a) (Str.ofString "get") true) =
   some ⟨.ok (.ref n), t + 1, [], n + 1, [.load a (dO es ep), .load a (dO es ep), .load a (dO es ep), .load a (dO es ep), .load a (dO es ep), .load a (dO es ep), .alloc (bmObj "dict.get" (.ref a))]⟩ := by kernel_rfl!
noncomputable def sO (es : Array (Int × Value)) (ep : Nat) (tb : SetTable) : Obj := ⟨.type "set", none, .set es ep tb, #[]⟩
theorem run_set_in (p : Program) (P : Params) (a n t : Nat) (es : Array (Int × Value)) (ep : Nat) (tb : SetTable) : run (fun _ => none) fastT ⟨p, P⟩ 400 none n t [some (sO es ep tb), some (sO es ep tb), some (sO es ep tb), some (sO es ep tb), some (sO es ep tb), some (sO es ep tb)] Value (getAttr (.ref a) (Str.ofString "__contains__") true) =
   some ⟨.ok (.ref n), t + 1, [], n + 1, [.load a (sO es ep tb), .load a (sO es ep tb), .load a (sO es ep tb), .load a (sO es ep tb), .load a (sO es ep tb), .load a (sO es ep tb), .alloc (bmObj "set.__contains__" (.ref a))]⟩ := by kernel_rfl!
noncomputable def look (es : List DictEntry) (name : Str) : Option Value := (es.find? (·.key.isStr name)).map (·.val)
theorem getL_look {es : List DictEntry} {name : Str} (hs : ∀ e ∈ es, e.refKey = false) : getL name es = some (look es name) := by
  unfold getL look
  cases q : es.find? (·.key.isStr name) with
  | some e => rfl
  | none =>
    have : es.any (·.refKey) = false := by
      rw [List.any_eq_false]
      intro e he; rw [hs e he]; decide
    dsimp only
    rw [this]; rfl
-- a matcher: its object, its dict
structure Mat (h : Heap) (mt dm : Addr) (es : List DictEntry) (n : Nat) : Prop where
  o : h.get? mt = some (instObj 249 dm)
  d : h.get? dm = some (dictOf es n)
  s : ∀ e ∈ es, e.refKey = false
theorem Mat.inst {h : Heap} {mt dm : Addr} {es : List DictEntry} {n : Nat} (M : Mat h mt dm es n) : InstAt h mt (instObj 249 dm) 249 (some (dictOf es n)) := ⟨M.o, rfl, rfl, M.d⟩
section
variable {w : World} {A : Around} {gs : Array GenState} {dr : Drawn} {os : OsState} {g h : Heap} {L : Addr} {t : Nat} {m : Str → Option Value} {news : List (Addr × Obj)} {pos : Pos} {env : Env} {mt dm : Addr} {es : List DictEntry} {n : Nat}
theorem g_go {base : Expr} {o r : Value} {s : Shared} {Q : Unit → Shared → Prop} (y : Q () s) : WP w A (letTemporaryGo base o r) Q s := wpAny_letTemporaryGo y
theorem m_get {name : Str} {v : Value} {Q : Value → Shared → Prop} (B : Bs w g) (H : Hp g L h m news) (M : Mat h mt dm es n) (fi : findIn (KF w.params) (.ref 249) name = some none) (hl : look es name = some v) (hv : handedIn v = true)
    (y : ∀ t', Q v ⟨h, gs, dr, t', os⟩) : WP w A (getAttr (.ref mt) name true) Q ⟨h, gs, dr, t, os⟩ :=
  get_own (attr := none) H.F B.K M.inst (sm_plain _ _) (sm_dict _) fi rfl (by rw [getL_look M.s, hl]) hv (y _)
theorem ga_dict_get {i : Nat} {d : Addr} {o : Obj} {f : Int → Option Value} {k : Nat} {Q : Value → Shared → Prop} (hh : A.handled = none) (H : Hp g L h m news) (e : news[i]? = some (d, o)) (x : IM w o f k)
    (y : ∀ q h' t', Hp g L h' m ((q, bmObj "dict.get" (.ref d)) :: news) → Q (.ref q) ⟨h', gs, dr, t', os⟩) : WP w A (getAttr (.ref d) (Str.ofString "get") true) Q ⟨h, gs, dr, t, os⟩ := by
  obtain ⟨kvs, ⟨es, ep, ⟨c1, c2, c3⟩, hd, _⟩, _⟩ := x
  obtain ⟨cls, dict, data, slots⟩ := o
  dsimp only at c1 c2 c3 hd
  subst c1 c2 c3 hd
  have ha := H.at i e
  have hr := run_dict_get pw w.params d h.objs.size t es ep
  rw [← table_eq_fast] at hr
  refine run_sound hr (fun _ _ e => nomatch e) hh rfl rfl ?_
  exact ⟨ha, ha, ha, ha, ha, ha, y _ _ _ (H.push _)⟩
theorem ga_set_in {a : Addr} {es : Array (Int × Value)} {ep : Nat} {tb : SetTable} {Q : Value → Shared → Prop} (hh : A.handled = none) (H : Hp g L h m news) (ha : h.get? a = some (sO es ep tb))
    (y : ∀ q h' t', Hp g L h' m ((q, bmObj "set.__contains__" (.ref a)) :: news) → Q (.ref q) ⟨h', gs, dr, t', os⟩) : WP w A (getAttr (.ref a) (Str.ofString "__contains__") true) Q ⟨h, gs, dr, t, os⟩ := by
  have hr := run_set_in pw w.params a h.objs.size t es ep tb
  rw [← table_eq_fast] at hr
  refine run_sound hr (fun _ _ e => nomatch e) hh rfl rfl ?_
  exact ⟨ha, ha, ha, ha, ha, ha, y _ _ _ (H.push _)⟩
end
theorem tree_set_in (a : Addr) (x : Value) : Builtin.«frozenset.__contains__» ⟨[.ref a, x], []⟩ = (Builtin.Frozenset.withSetAsKey "frozenset.__contains__" x (setContains a) >>= fun r => ret (.bool r)) := by kernel_rfl!
section
variable {w : World} {A : Around} {gs : Array GenState} {dr : Drawn} {os : OsState} {g h : Heap} {L : Addr} {t : Nat} {m : Str → Option Value} {news : List (Addr × Obj)} {pos : Pos} {env : Env} {mt dm : Addr} {es : List DictEntry} {n : Nat}
theorem set_look {a : Addr} {x : Str} {tk : Tok} {Q : Bool → Shared → Prop} {E : Value → Shared → Prop} {s : Shared} (ha : s.heap.SetOf (strKind pw w) a (fun _ => false) 0) 
    (y : Q false { s with toks := s.toks + 1 }) : wpAny (model pw w) A (Builtin.Frozenset.withSetAsKey "frozenset.__contains__" (.str x tk) (setContains a)) Q E s := by
  unfold Builtin.Frozenset.withSetAsKey
  refine wpAny_tryCatch ?_
  unfold setContains
  refine wpAny_holding ?_
  refine wpAny_bind ((strKind pw w).pyHash (strKind_is pw w x tk) ?_)
  refine wpAny_bind (wpAny_setFind_of (s := { s with toks := s.toks + 1 }) (strKind_is pw w x tk) (by rfl) ha fun r hr => ?_)
  refine wpAny_pure ?_
  rw [hr]
  exact y
-- `isbjunk(x)` over the empty set
theorem call_set_in {q a : Addr} {x : Str} {tk : Tok} {Q : Value → Shared → Prop} (hq : h.get? q = some (bmObj "set.__contains__" (.ref a))) (ha : h.SetOf (strKind pw w) a (fun _ => false) 0)
    (y : ∀ t', Q (.bool false) ⟨h, gs, dr, t', os⟩) : WP w A (call (.ref q) [.str x tk]) Q ⟨h, gs, dr, t, os⟩ := by
  obtain ⟨o, es, ep, tb, ho, hc, hd, r⟩ := id ha
  refine call_bm hq F.slot_set_contains.plain entry_set_contains ?_
  have h1 : o.cls = .type "set" := hc.1
  have h2 : ∀ c, o.data ≠ .cls c := fun c e => by rw [hd] at e; cases e
  refine @check_bound w A.in1 ⟨h, gs, dr, t, os⟩ a o "set" "set.__contains__" [.str x tk] _ ho h1 h2 kd_set_contains va_set_contains sub_set_mod (okB_set_contains _ _) ?_
  have h3 := tree_set_in a (.str x tk)
  generalize Builtin.«frozenset.__contains__» ⟨[.ref a, .str x tk], []⟩ = T at h3 ⊢
  subst h3
  exact wpAny_bind (set_look ha (wpAny_pure (y _)))
end
noncomputable abbrev kfP (P : Params) : Addr → Option Obj := fun a => List.lookup a (KT P)
noncomputable abbrev nn (k : Nat) : List (Option Obj) := List.replicate k none
noncomputable def is89 : Code → Bool
  | .call (.ref 89) _ => true
  | _ => false
noncomputable def isCol : Code → Bool
  | .builtin id _ => id == "proto.collect"
  | _ => false
noncomputable abbrev mObj (d : Addr) (vs : Array Value) : Obj := ⟨.ref 142, some d, .seq vs 0, #[]⟩
noncomputable abbrev lObj (vs : Array Value) (k : Nat) : Obj := ⟨.type "list", none, .seq vs k, #[]⟩
section
variable (p : Program) (P : Params) (a b c : Value) (n t : Nat)
theorem mk1 : run (kfP P) fastT ⟨p, P⟩ 400 none n t (nn 2) Fin (callAny (.ref 142) ⟨[a, b, c], []⟩) = some ⟨.ok (.again (.call (.builtin "type.__call__") ⟨[.ref 142, a, b, c], []⟩)), t, [], n, []⟩ := by kernel_rfl!
theorem mk2 : run (kfP P) fastT ⟨p, P⟩ 400 none n t (nn 1) Fin (callAny (.builtin "type.__call__") ⟨[.ref 142, a, b, c], []⟩) = some ⟨.ok (.again (.builtin "type.__call__" ⟨[.ref 142, a, b, c], []⟩)), t, [], n, []⟩ := by kernel_rfl!
noncomputable def mkS := runTo (kfP P) fastT ⟨p, P⟩ is89 400 none n t (nn 14) Fin (denote fastT (.builtin "type.__call__" ⟨[.ref 142, a, b, c], []⟩))
theorem mk3 : (mkS p P a b c n t).map (fun r => (r.t, r.os, r.n, r.evs, r.c)) = some (t + 1, [], n, [], .call (.ref 89) ⟨[.ref 142, a, b, c], []⟩) := by kernel_rfl!
theorem mk4 (x d n2 t2 : Nat) : (mkS p P a b c n t).map (fun r => run (kfP P) fastT ⟨p, P⟩ 400 none n2 t2 [some (mObj d #[a, b, c]), none, some (mObj d #[a, b, c]), none, none, none, some (mObj d #[a, b, c]), none, some (mObj d #[a, b, c]), none, none, none, none, none] Fin (r.k (.ok (.ret (.ref x)))))
   = some (some ⟨.ok (.done (.ret (.ref x))), t2, [], n2, [.load x (mObj d #[a, b, c]), .load x (mObj d #[a, b, c]), .load x (mObj d #[a, b, c]), .load x (mObj d #[a, b, c])]⟩) := by kernel_rfl!
noncomputable def mkN (q : Addr) := runTo (kfP P) fastT ⟨p, P⟩ isCol 400 none n t (nn 9) Fin (denote fastT (.builtin "tuple.__new__" ⟨[.ref 142, .ref q], []⟩))
theorem mk5 (q : Addr) : (mkN p P n t q).map (fun r => (r.t, r.os, r.n, r.evs, r.c)) = some (t, [], n, [], .builtin "proto.collect" ⟨[.ref q], []⟩) := by kernel_rfl!
theorem mk6 (q S n2 t2 kk : Nat) : (mkN p P n t q).map (fun r => run (kfP P) fastT ⟨p, P⟩ 400 none n2 t2 [some (lObj #[a, b, c] kk), none] Fin (r.k (.ok (.ret (.ref S)))))
   = some (some ⟨.ok (.done (.ret (.ref (n2 + 1)))), t2, [], n2 + 1 + 1, [.load S (lObj #[a, b, c] kk), .alloc emptyDict, .alloc (mObj n2 #[a, b, c])]⟩) := by kernel_rfl!
theorem mk7 : run (fun _ => none) fastT ⟨p, P⟩ 400 none n t [] (Value × List Value) (getMethod (.type "tuple") (Str.ofString "__new__")) = some ⟨.ok (.builtin "tuple.__new__", []), t + 1, [], n, []⟩ := by kernel_rfl!
theorem mk8 (q : Addr) : run (kfP P) fastT ⟨p, P⟩ 400 none n t (nn 6) Fin (callAny (.builtin "tuple.__new__") ⟨[.ref 142, .ref q], []⟩) = some ⟨.ok (.again (.builtin "tuple.__new__" ⟨[.ref 142, .ref q], []⟩)), t, [], n, []⟩ := by kernel_rfl!
end
theorem AOk.under {A : Around} {d u : Nat} (h : AOk A d u) (c : Code) : AOk (A.under c) (d + c.weight) (u + c.cUnits) := ⟨h.hh, Nat.add_le_add_right h.hd _, Nat.add_le_add_right h.hu _⟩
theorem AOk.mark {A : Around} {d u : Nat} (h : AOk A d u) : AOk (A.mark none) d u := ⟨h.hh, h.hd, h.hu⟩
theorem AOk.mono {A : Around} {d u d' u' : Nat} (h : AOk A d u) (h1 : d ≤ d') (h2 : u ≤ u') : AOk A d' u' := ⟨h.hh, Nat.le_trans h.hd h1, Nat.le_trans h.hu h2⟩
theorem Hp.add {g h h' : Heap} {L x : Addr} {o : Obj} {m : Str → Option Value} {news : List (Addr × Obj)} (H : Hp g L h m news) (k : Ext h h') (hx : h.get? x = none) (ho : h'.get? x = some o) : Hp g L h' m ((x, o) :: news) := by
  have H' := H.ext k
  refine ⟨H'.F, fun p hp => ?_, List.nodup_cons.mpr ⟨fun q => ?_, H'.nd⟩⟩
  · rcases List.mem_cons.mp hp with rfl | hp
    · refine ⟨ho, ?_, ?_⟩
      · intro (e : x = L)
        obtain ⟨oL, _, _, hL, _⟩ := H.F.ns
        rw [e, hL] at hx; cases hx
      · cases q : g.get? x with
        | none => rfl
        | some o₁ => rw [H.F.keep _ _ q] at hx; cases hx
    · exact H'.N p hp
  · obtain ⟨p, hp, e⟩ := List.mem_map.mp q
    have := (H.N p hp).1
    rw [e, hx] at this; cases this
theorem none_of_ge {h : Heap} {a : Addr} (e : h.objs.size ≤ a) : h.get? a = none := by
  cases q : h.get? a with
  | none => rfl
  | some o => exact absurd (Heap.lt_size q) (Nat.not_lt.mpr e)
theorem given_of {w : World} {g h : Heap} (B : Bs w g) (k : Ext g h) : Given (kfP w.params) h := fun a o e => k _ _ (B.K a o (by rw [KT_eq]; exact e))
section
variable {w : World} {A : Around} {gs : Array GenState} {dr : Drawn} {os : OsState} {g h : Heap} {L : Addr} {t : Nat} {d u : Nat} {a b c : Value}
-- collecting a tuple
theorem cd_collect {q : Addr} {o : Obj} {items : Array Value} {n : Nat} {R : Result → Shared → Prop} (ho : h.get? q = some o) (hc : o.cls = .type "tuple") (hd : o.data = .seq items n) (hsz : items.size ≤ sizeLine)
    (y : ∀ S h' k, Ext h h' → h'.get? S = some (lObj items k) → h'.objs.size = h.objs.size + 1 → R (.ok (.ret (.ref S))) ⟨h', gs, dr, t, os⟩) : codeAny (model pw w) A (.builtin "proto.collect" ⟨[.ref q], []⟩) R ⟨h, gs, dr, t, os⟩ := by
  refine codeAny_builtin F.entry_proto_collect ?_
  rw [Around.under_plainId F.plain_proto_collect _]
  show wpAny _ A.in1 (newList [] >>= fun l => again (.builtin "list.__iadd__" ⟨[l, .ref q], []⟩)) _ _ _
  refine wpAny_bind (wpAny_newObj_type ?_)
  refine wpAny_pure ⟨plainId_quiet F.plain_list_iadd _, codeAny_builtin F.entry_list_iadd ?_⟩
  rw [Around.under_plainId F.plain_list_iadd _]
  show wpAny _ A.in1 (Builtin.List.listExtendWith (.ref h.objs.size) (.ref q) (.ref h.objs.size)) _ _ _
  have hS : (h.push { cls := .type "list", data := .seq ([] : List Value).toArray }).get? h.objs.size = some { cls := .type "list", data := .seq #[] 0 } := Heap.get?_push_size _ rfl
  have hS₂ := Heap.get?_update_self (Obj.mapSeq (· ++ items)) hS rfl
  obtain ⟨k, e⟩ : ∃ k, Obj.mapSeq (· ++ items) ({ cls := .type "list", data := .seq #[] 0 } : Obj) = lObj items k := by
    refine ⟨match (Obj.mapSeq (· ++ items) ({ cls := .type "list", data := .seq #[] 0 } : Obj)).data with | .seq _ k => k | _ => 0, ?_⟩
    simp [Obj.mapSeq]
  rw [e] at hS₂
  refine wpAny_extend_seq (hsz := hsz) (A := A) (R := R) (s := ⟨h.push { cls := .type "list", data := .seq ([] : List Value).toArray }, gs, dr, t, os⟩) _ q _ 0 (.inr rfl) hS (Heap.get?_push_of_some _ ho) hc hd ?_
  refine y _ _ _ (fun b o' hb => ?_) hS₂ ?_
  · exact (Heap.get?_update_other _ _ (Nat.ne_of_gt (Heap.lt_size hb))).trans (Heap.get?_push_of_some _ hb)
  · rw [size_update, Heap.size_push]
end
theorem mk7' (p : Program) (P : Params) (n t : Nat) (pl : Sem Bool) : run (fun _ => none) fastT ⟨p, P⟩ 400 none n t [] (Value × List Value) (getMethod (.type "tuple") (Str.ofString "__new__") pl) = some ⟨.ok (.builtin "tuple.__new__", []), t + 1, [], n, []⟩ := by kernel_rfl!
theorem lk_89 (P : Params) : (KF P).lookup 89 = some (o89 P) := by kernel_rfl!
theorem cd_89 (P : Params) : codeIn (KF P) (.ref 88) (Str.ofString "Match.__new__") = true := by kernel_rfl!
section
variable {w : World} {A : Around} {gs : Array GenState} {dr : Drawn} {os : OsState} {g h : Heap} {L : Addr} {t : Nat} {d u : Nat} {a b c : Value} {m : Str → Option Value} {news : List (Addr × Obj)}
theorem r_expr {env : Env} {e : Expr} {pos : Pos} {P : Shared → Prop} {Q : Flow → Shared → Prop} {s : Shared} (y : WP w A (eval e env) (fun _ s' => P s') s) (hi : interactive env = false := by with_unfolding_all rfl) (hs : swapsWith e none pos.line env = pure false := by with_unfolding_all rfl) :
    WP w A (exec (.Expr e pos) env) (Seq P Q) s := wpAny_Expr_any (wpAny_mono y (fun _ _ y => y) fun _ _ e => e) hi hs
theorem e_meth {env : Env} {o : Expr} {name : Str} {apos pos : Pos} {args : List Expr} {pl : Sem Bool} {Q : Value → Shared → Prop} {s : Shared}
    (y : WP w A (eval o env) (fun ov s₁ => WP w A (getMethod ov name pl) (fun fx s₂ => WP w A (callWith pos fx.1 fx.2 (backTo pos (starEach args env)) []) Q s₂) s₁) s)
    (he : eval (.Call (.Attribute o name apos) args [] pos) env = (do
      let ov ← eval o env
      standAt apos.atName
      let (f, first) ← holding [ov] (getMethod ov name pl)
      callWith pos f first (backTo pos (starEach args env)) []) := by with_unfolding_all rfl) : WP w A (eval (.Call (.Attribute o name apos) args [] pos) env) Q s := MethodCall_ y he
-- `tuple.__new__(Match, (a, b, c))`
theorem tuple_new {q : Addr} {n : Nat} {Q : Value → Shared → Prop} (B : Bs w g) (k : Ext g h) (hh : A.handled = none) (ho : h.get? q = some ⟨.type "tuple", none, .seq #[a, b, c] n, #[]⟩)
    (y : ∀ x dd h', Ext h h' → h.get? x = none → h'.get? x = some (mObj dd #[a, b, c]) → Q (.ref x) ⟨h', gs, dr, t, os⟩) : WP w A (call (.builtin "tuple.__new__") [.ref 142, .ref q]) Q ⟨h, gs, dr, t, os⟩ := by
  refine wpAny_call (X.x_code ?_)
  have h8 := mk8 pw w.params h.objs.size t q
  rw [← table_eq_fast] at h8
  refine run_sound h8 (given_of B k) hh rfl rfl ?_
  refine ⟨Code.quiet_builtin _ (by decide +kernel), ?_⟩
  refine X.x_code ?_
  have h5 := mk5 pw w.params h.objs.size t q
  cases hr : mkN pw w.params h.objs.size t q with
  | none => rw [hr] at h5; cases h5
  | some r =>
    rw [hr] at h5
    simp only [Option.map_some, Option.some.injEq, Prod.mk.injEq] at h5
    obtain ⟨e1, e2, e3, e4, e5⟩ := h5
    have hr' := hr
    unfold mkN at hr'
    rw [← table_eq_fast] at hr'
    have gv := given_of B k
    generalize hT : denote table (.builtin "tuple.__new__" ⟨[.ref 142, .ref q], []⟩) = T at hr' ⊢
    refine runTo_sound (s := ⟨h, gs, dr, t, os⟩) hr' gv hh rfl rfl ?_
    rw [e4, e5]
    show codeAny _ _ _ _ _
    rw [e1]
    refine cd_collect ho rfl rfl (Nat.le_of_ble_eq_true rfl) fun S h' kk x1 x2 x3 => ?_
    have h6 := mk6 pw w.params a b c h.objs.size t q S h'.objs.size t kk
    rw [hr] at h6
    simp only [Option.map_some, Option.some.injEq] at h6
    rw [← table_eq_fast] at h6
    refine run_sound h6 (given_of B (k.trans x1)) hh rfl rfl ?_
    refine ⟨x2, ?_⟩
    have e : (h'.push emptyDict).objs.size = h'.objs.size + 1 := Heap.size_push ..
    have x3' : h'.objs.size = h.objs.size + 1 := x3
    have hle : h.objs.size ≤ h'.objs.size + 1 := by (first|lia|omega)
    refine y (h'.objs.size + 1) h'.objs.size _ (fun b o q => Heap.get?_push_of_some _ (Heap.get?_push_of_some _ (x1 b o q))) (none_of_ge hle) ?_
    rw [← e]
    exact Heap.get?_push_size _ rfl
set_option maxHeartbeats 1000000 in
-- the Python function `Match.__new__`
theorem mnew_ok {Q : Value → Shared → Prop} (B : Bs w h) (hA : AOk A d u) (hd : d < recursionLimit)
    (y : ∀ x dd h' t', Ext h h' → h.get? x = none → h'.get? x = some (mObj dd #[a, b, c]) → Q (.ref x) ⟨h', gs, dr, t', os⟩) : codeAny (model pw w) A (.call (.ref 89) ⟨[.ref 142, a, b, c], []⟩) (fun r s' => match r with | .ok (.ret v) => Q v s' | .ok _ => False | .error e => False) ⟨h, gs, dr, t, os⟩ := by
  refine enterC (vs := [.ref 142, a, b, c]) (ns := ns_mnew) (news := []) h B (Ext.refl h) (Nat.le_refl _) (by simp) (by simp) hA hd ok_mnew (lk_89 _) (cd_89 _) (.of_eq (by kernel_rfl!)) (by kernel_rfl!) (by kernel_rfl!) (by kernel_rfl!) ?_
  intro h1 t1 H k1
  change WP w _ (execs (bodyOf (me 6 4)) (env_mnew h.objs.size)) _ _
  have hA1 := hA.deeper (envOf (Str.ofString "Match.__new__") (scoOf (me 6 4)) h.objs.size 89 (.ref 88))
  generalize A.deeper _ = A1 at hA1 ⊢
  change Hp h h.objs.size h1 (LV ns_mnew [some (.ref 142), some a, some b, some c]) [] at H
  refine r_cons ?_
  refine r_expr ?_
  (with_reducible refine e_str ?_; intro _ _)
  refine r_cons ?_
  refine r_ret ?_
  refine e_meth ?_
  (with_reducible refine gl_mnew_tuple ‹_› ‹_› ?_)
  have h7 := mk7' pw w.params h1.objs.size ‹Nat› (do
      let r ← importBound (Expr.Name (Str.ofString "tuple") { line := 38, col := 15, endLine := 38, endCol := 20 }) (env_mnew h.objs.size)
      pure (r.getD true))
  rw [← table_eq_fast] at h7
  refine run_sound h7 (fun _ _ e => nomatch e) hA1.hh rfl rfl ?_
  refine call_rule ?_
  repeat (first | (with_reducible first|refine ld_mnew_0 ‹_› ?_|refine ld_mnew_1 ‹_› ?_|refine ld_mnew_2 ‹_› ?_|refine ld_mnew_3 ‹_› ?_) | (first|(with_reducible first|refine sp_cons ?_|refine sp_nil ?_|refine keep_b ?_|refine e_tuple ‹_› ?_)|(with_reducible refine n_tuple ‹_› ?_; intro _ _ _ _ _ _)))
  rename_i q h2 H2 _ _ _
  refine tuple_new (h := h2) B H2.F.keep hA1.hh (H2.at 0 rfl) fun x dd h3 x1 x2 x3 => ?_
  refine y x dd h3 _ (Ext.trans H2.F.keep x1) ?_ x3
  cases q1 : h.get? x with
  | none => rfl
  | some o => rw [H2.F.keep _ _ q1] at x2; cases x2
theorem w_tc (a b c : Value) : (Code.builtin "type.__call__" ⟨[.ref 142, a, b, c], []⟩).weight ≤ 1 ∧ (Code.builtin "type.__call__" ⟨[.ref 142, a, b, c], []⟩).cUnits ≤ 10 := ⟨Nat.le_of_ble_eq_true (by kernel_rfl!), Nat.le_of_ble_eq_true (by kernel_rfl!)⟩
theorem ext_of_loads {h h' : Heap} (e : h' = h) : Ext h h' := e ▸ Ext.refl h
-- `Match(a, b, c)`
theorem match_ok {Q : Value → Shared → Prop} (B : Bs w h) (hA : AOk A d u) (hd : d + 1 < recursionLimit)
    (y : ∀ x dd h' t', Ext h h' → h.get? x = none → h'.get? x = some (mObj dd #[a, b, c]) → Q (.ref x) ⟨h', gs, dr, t', os⟩) : WP w A (call (.ref 142) [a, b, c]) Q ⟨h, gs, dr, t, os⟩ := by
  have gv := given_of B (Ext.refl h)
  refine wpAny_call (X.x_code ?_)
  have h1 := mk1 pw w.params a b c h.objs.size t
  rw [← table_eq_fast] at h1
  refine run_sound (s := ⟨h, gs, dr, t, os⟩) h1 gv hA.hh rfl rfl ?_
  refine ⟨rfl, ?_⟩
  refine X.x_code ?_
  have h2 := mk2 pw w.params a b c h.objs.size t
  rw [← table_eq_fast] at h2
  refine run_sound (s := ⟨h, gs, dr, t, os⟩) h2 gv hA.hh rfl rfl ?_
  refine ⟨Code.quiet_builtin _ (by decide +kernel), ?_⟩
  refine X.x_code ?_
  have h3 := mk3 pw w.params a b c h.objs.size t
  cases hr : mkS pw w.params a b c h.objs.size t with
  | none => rw [hr] at h3; cases h3
  | some r =>
    rw [hr] at h3
    simp only [Option.map_some, Option.some.injEq, Prod.mk.injEq] at h3
    obtain ⟨e1, e2, e3, e4, e5⟩ := h3
    have hr' := hr
    unfold mkS at hr'
    rw [← table_eq_fast] at hr'
    have hA2 : AOk (A.under (.builtin "type.__call__" ⟨[.ref 142, a, b, c], []⟩)) (d + 1) (u + 10) := (hA.under _).mono (Nat.add_le_add_left (w_tc a b c).1 _) (Nat.add_le_add_left (w_tc a b c).2 _)
    generalize hT : denote table (.builtin "type.__call__" ⟨[.ref 142, a, b, c], []⟩) = T at hr' ⊢
    generalize A.under (.builtin "type.__call__" ⟨[.ref 142, a, b, c], []⟩) = A2 at hA2 ⊢
    refine runTo_sound (s := ⟨h, gs, dr, t, os⟩) hr' gv hA2.hh rfl rfl ?_
    rw [e4, e5]
    show codeAny _ _ _ _ _
    rw [e1]
    have back : ∀ x dd h' t', Ext h h' → h.get? x = none → h'.get? x = some (mObj dd #[a, b, c]) → wpAny (model pw w) A2 (r.k (.ok (.ret (.ref x))))
        (fun fin s' => match fin with | .done f => (match (Except.ok f : Result) with | .ok (.ret v) => Q v s' | .ok _ => False | .error e => False) | .again c' => c'.quiet = true ∧ codeAny (model pw w) A c' (fun r s' => match r with | .ok (.ret v) => Q v s' | .ok _ => False | .error e => False) s') (fun e s' => False) ⟨h', gs, dr, t', os⟩ := by
      intro x dd h' t' x1 x2 x3
      have h4 := mk4 pw w.params a b c h.objs.size t x dd h'.objs.size t'
      rw [hr] at h4
      simp only [Option.map_some, Option.some.injEq] at h4
      rw [← table_eq_fast] at h4
      refine run_sound (s := ⟨h', gs, dr, t', os⟩) h4 (given_of B x1) hA2.hh rfl rfl ?_
      exact ⟨x3, x3, x3, x3, y x dd h' t' x1 x2 x3⟩
    have fin := mnew_ok (w := w) (A := A2.mark none) (gs := gs) (dr := dr) (os := os) (t := t + 1) (a := a) (b := b) (c := c) (Q := fun v s' => wpAny (model pw w) A2 (r.k (.ok (.ret v)))
        (fun fin s' => match fin with | .done f => (match (Except.ok f : Result) with | .ok (.ret v) => Q v s' | .ok _ => False | .error e => False) | .again c' => c'.quiet = true ∧ codeAny (model pw w) A c' (fun r s' => match r with | .ok (.ret v) => Q v s' | .ok _ => False | .error e => False) s') (fun e s' => False) s') B hA2.mark (by (first|lia|omega)) back
    exact codeAny_mono fin fun res s' z => by
      rcases res with e | (v | _ | _ | _) <;> first | exact z.elim | exact z
end
theorem Mat.ext {h h' : Heap} {mt dm : Addr} {es : List DictEntry} {n : Nat} (M : Mat h mt dm es n) (k : Ext h h') : Mat h' mt dm es n := ⟨k _ _ M.o, k _ _ M.d, M.s⟩
section
variable {w : World} {A : Around} {gs : Array GenState} {dr : Drawn} {os : OsState} {g h : Heap} {L : Addr} {t : Nat} {m : Str → Option Value} {news : List (Addr × Obj)} {mt dm : Addr} {es : List DictEntry} {n : Nat} {v : Value} {Q : Value → Shared → Prop}
theorem mg_a (B : Bs w g) (H : Hp g L h m news) (M : Mat g mt dm es n) (hl : look es (Str.ofString "a") = some v) (hv : handedIn v = true) (y : ∀ t', Q v ⟨h, gs, dr, t', os⟩) : WP w A (getAttr (.ref mt) (Str.ofString "a") true) Q ⟨h, gs, dr, t, os⟩ := m_get B H (M.ext H.F.keep) (fi_a _) hl hv y
theorem mg_b (B : Bs w g) (H : Hp g L h m news) (M : Mat g mt dm es n) (hl : look es (Str.ofString "b") = some v) (hv : handedIn v = true) (y : ∀ t', Q v ⟨h, gs, dr, t', os⟩) : WP w A (getAttr (.ref mt) (Str.ofString "b") true) Q ⟨h, gs, dr, t, os⟩ := m_get B H (M.ext H.F.keep) (fi_b _) hl hv y
theorem mg_b2j (B : Bs w g) (H : Hp g L h m news) (M : Mat g mt dm es n) (hl : look es (Str.ofString "b2j") = some v) (hv : handedIn v = true) (y : ∀ t', Q v ⟨h, gs, dr, t', os⟩) : WP w A (getAttr (.ref mt) (Str.ofString "b2j") true) Q ⟨h, gs, dr, t, os⟩ := m_get B H (M.ext H.F.keep) (fi_b2j _) hl hv y
theorem mg_bjunk (B : Bs w g) (H : Hp g L h m news) (M : Mat g mt dm es n) (hl : look es (Str.ofString "bjunk") = some v) (hv : handedIn v = true) (y : ∀ t', Q v ⟨h, gs, dr, t', os⟩) : WP w A (getAttr (.ref mt) (Str.ofString "bjunk") true) Q ⟨h, gs, dr, t, os⟩ := m_get B H (M.ext H.F.keep) (fi_bjunk _) hl hv y
end
section
variable {w : World} {A : Around} {gs : Array GenState} {dr : Drawn} {os : OsState} {g h : Heap} {L : Addr} {t : Nat} {m : Str → Option Value} {news : List (Addr × Obj)} {env : Env}
theorem k_swap3 {x1 x2 x3 : Str} {v1 v2 v3 : Value} {P : Shared → Prop} {a : Addr} (hh : A.handled = none) (H : Hp g L h m ((a, ({ cls := .type "tuple", data := .seq [v1, v2, v3].toArray } : Obj)) :: news))
    (y : ∀ h', Hp g L h' m news → StN w A env P [x3, x2, x1] [v3, v2, v1] ⟨h', gs, dr, t, os⟩) : SwK w A env [x1, x2, x3] P (.ref a) ⟨h, gs, dr, t, os⟩ := k_swap hh H rfl y
theorem k_swap2 {x1 x2 : Str} {v1 v2 : Value} {P : Shared → Prop} {a : Addr} (hh : A.handled = none) (H : Hp g L h m ((a, ({ cls := .type "tuple", data := .seq [v1, v2].toArray } : Obj)) :: news))
    (y : ∀ h', Hp g L h' m news → StN w A env P [x2, x1] [v2, v1] ⟨h', gs, dr, t, os⟩) : SwK w A env [x1, x2] P (.ref a) ⟨h, gs, dr, t, os⟩ := k_swap hh H rfl y
end
theorem lk_203 (P : Params) : (KF P).lookup 203 = some (o203 P) := by kernel_rfl!
theorem lk_196 (P : Params) : (KF P).lookup 196 = some (o196 P) := by kernel_rfl!
theorem cd_203 (P : Params) : codeIn (KF P) (.ref 202) (Str.ofString "SequenceMatcher.find_longest_match") = true := by kernel_rfl!
noncomputable abbrev fd203 (P : Params) : FuncData := fnOf (S "find_longest_match") (S "SequenceMatcher.find_longest_match") (parOf (me 8 6)) (bodyOf (me 8 6)) (scoOf (me 8 6)) (.ref 196) .none (.str (dok (me 8 6)) 504) (.str (S "cpy313.difflib") 208) none (.ref 202) .none
-- the places of c in b
noncomputable def places (c : Nat) (b : List Nat) : List Nat := (List.range b.length).filter fun j => b[j]? == some c
-- the matcher's table of places
noncomputable def B2J (w : World) (h : Heap) (D : Addr) (b : List Nat) : Prop := ∃ fD : Str → Option Value, h.MapOf (strKind pw w) D fD ∧ (D == sysModules) = false ∧
  ∀ c, (∃ l vs, fD ⟨#[c]⟩ = some (.ref l) ∧ h.IsList l (vs : List Value).toArray ∧ IntsAre vs ((places c b).map Int.ofNat)) ∨ (fD ⟨#[c]⟩ = none ∧ places c b = [])
section
variable {w : World} {A : Around} {gs : Array GenState} {dr : Drawn} {os : OsState} {h : Heap} {t : Nat} {d u : Nat}
theorem binds_203 {x y z v q : Value} (X : (KF w.params).In h) : BindsTo ⟨h, gs, dr, t, os⟩ (fd203 w.params) ⟨[x, y, z, v, q], []⟩ ((ns_flm.map Str.ofString).zip [x, y, z, v, q]) :=
  BindsTo.of_defaults rfl (X _ _ (lk_196 _)) rfl rfl (by kernel_rfl!)
end
-- a loop's body, by its road
noncomputable def loopB : Stmt → List Stmt
  | .For _ _ b .. => b
  | .While _ b .. => b
  | _ => []
noncomputable def nthS (l : List Stmt) (i : Nat) : Stmt := (l[i]?).getD (.Pass default)
-- the row's table, read before row i: column j's stretch
noncomputable def Row (a b : List Nat) (alo blo bhi i : Nat) (f : Int → Option Value) : Prop :=
  ∀ j : Nat, blo ≤ j → j < bhi → (f ((j : Int) - 1) = none ∧ rn a b alo blo i j = 0) ∨ ∃ tk, f ((j : Int) - 1) = some (.int ((rn a b alo blo i j : Nat) : Int) tk)
-- the new row's table, when the columns of `pre` have been looked at
structure NewRow (a b : List Nat) (alo blo bhi i : Nat) (pre : Nat → Prop) (f : Int → Option Value) : Prop where
  on : ∀ j : Nat, pre j → blo ≤ j → j < bhi → ∃ tk, f (j : Int) = some (.int ((rn a b alo blo (i + 1) (j + 1) : Nat) : Int) tk)
  off : ∀ z : Int, f z ≠ none → ∃ j : Nat, z = j ∧ pre j ∧ blo ≤ j ∧ j < bhi
theorem NewRow.row {a b : List Nat} {alo blo bhi i : Nat} {pre : Nat → Prop} {f : Int → Option Value} (N : NewRow a b alo blo bhi i pre f) (all : ∀ j, blo ≤ j → j < bhi → eqc a b i j = true → pre j) : Row a b alo blo bhi (i + 1) f := by
  intro j hj hj'
  by_cases q : j = blo
  · subst q
    refine .inl ⟨?_, rn_low (.inr (Nat.le_refl _))⟩
    cases z : f ((j : Int) - 1) with
    | none => rfl
    | some v =>
      obtain ⟨j', e, _, h1, _⟩ := N.off _ (by rw [z]; simp)
      (first|lia|omega)
  · obtain ⟨j₁, rfl⟩ : ∃ j₁, j = j₁ + 1 := ⟨j - 1, by (first|lia|omega)⟩
    have e : (((j₁ + 1 : Nat) : Int) - 1) = (j₁ : Int) := by (first|lia|omega)
    rw [e]
    by_cases p : pre j₁
    · exact .inr (N.on j₁ p (by (first|lia|omega)) (by (first|lia|omega)))
    · refine .inl ⟨?_, ?_⟩
      · cases z : f (j₁ : Int) with
        | none => rfl
        | some v =>
          obtain ⟨j', e, h0, _⟩ := N.off _ (by rw [z]; simp)
          have : j₁ = j' := by (first|lia|omega)
          exact absurd (this ▸ h0) p
      · refine rn_ne ?_
        cases z : eqc a b i j₁ with
        | false => rfl
        | true => exact absurd (all j₁ (by (first|lia|omega)) (by (first|lia|omega)) z) p
theorem mem_places {c j : Nat} {b : List Nat} : j ∈ places c b ↔ b[j]? = some c := by
  unfold places
  rw [List.mem_filter, List.mem_range]
  constructor
  · rintro ⟨_, h⟩; simpa using h
  · intro h
    exact ⟨(List.getElem?_eq_some_iff.mp h).1, by simpa using h⟩
theorem places_asc (c : Nat) (b : List Nat) : (places c b).Pairwise (· < ·) := List.Pairwise.filter _ List.pairwise_lt_range
theorem NewRow.start {a b : List Nat} {alo blo bhi i : Nat} : NewRow a b alo blo bhi i (fun _ => False) (fun _ => none) := ⟨fun _ h => h.elim, fun _ h => absurd rfl h⟩
theorem NewRow.skip {a b : List Nat} {alo blo bhi i : Nat} {pre pre' : Nat → Prop} {f : Int → Option Value} (N : NewRow a b alo blo bhi i pre f) (h : ∀ j, pre j → pre' j) (h' : ∀ j, pre' j → blo ≤ j → j < bhi → pre j) : NewRow a b alo blo bhi i pre' f :=
  ⟨fun j p h1 h2 => N.on j (h' j p h1 h2) h1 h2, fun z hz => let ⟨j, e, p, r⟩ := N.off z hz; ⟨j, e, h j p, r⟩⟩
theorem NewRow.step {a b : List Nat} {alo blo bhi i j : Nat} {pre : Nat → Prop} {f : Int → Option Value} {tk : Tok} (N : NewRow a b alo blo bhi i pre f) (h1 : blo ≤ j) (h2 : j < bhi) :
    NewRow a b alo blo bhi i (fun x => pre x ∨ x = j) (fun z => if z = (j : Int) then some (.int ((rn a b alo blo (i + 1) (j + 1) : Nat) : Int) tk) else f z) := by
  refine ⟨fun x p a1 a2 => ?_, fun z hz => ?_⟩
  · by_cases q : x = j
    · subst q; exact ⟨tk, by simp⟩
    · rcases p with p | p
      · obtain ⟨tk', e⟩ := N.on x p a1 a2
        exact ⟨tk', by rw [if_neg (by (first|lia|omega))]; exact e⟩
      · exact absurd p q
  · by_cases q : z = (j : Int)
    · exact ⟨j, q, .inr rfl, h1, h2⟩
    · rw [if_neg q] at hz
      obtain ⟨j', e, p, r⟩ := N.off z hz
      exact ⟨j', e, .inl p, r⟩
section
variable {w : World} {A : Around} {env : Env} {s : Shared}
theorem r_two {t₁ t₂ value : Expr} {pos : Pos} {P : Shared → Prop} {Q : Flow → Shared → Prop} (y : WP w A (eval value env) (fun v s₁ => WP w A (assign t₁ env v) (fun _ s₂ => WP w A (assign t₂ env v) (fun _ s₃ => P s₃) s₂) s₁) s)
    (he : (assignEach [t₁, t₂] env).map (·.2) = [assign t₁ env, assign t₂ env] := by with_unfolding_all rfl) (hw : swappedStores [t₁, t₂] value env = pure none := by with_unfolding_all rfl) :
    WP w A (exec (.Assign [t₁, t₂] value pos) env) (Seq P Q) s := wpAny_Assign_two y he hw
theorem a_sub {o i : Expr} {pos : Pos} {v : Value} {Q : Unit → Shared → Prop} (y : WP w A (eval o env) (fun ov s₁ => WP w A (eval i env) (fun iv s₂ => WP w A (setItem ov iv v) Q s₂) s₁) s) : WP w A (assign (.Subscript o i pos) env v) Q s := by
  intro Γ p hΓ
  simp only [PySem.assign_Subscript, Sem.wp_bind', Sem.wp_holding, Sem.wp_cmd_standAt, Sem.wp_release, Sem.wp_pure']
  exact Sem.wp_mono _ Γ _ (fun ov p₁ s₁ h₁ => Sem.wp_mono _ Γ _ (fun iv p₂ s₂ h₂ => by first | exact h₂ Γ _ hΓ | exact Sem.wp_mono _ Γ _ (fun _ _ _ x => x) (fun _ _ _ x => x) _ _ (h₂ Γ _ hΓ)) (fun _ _ _ h' => h') _ _ (h₁ Γ _ hΓ)) (fun _ _ _ h' => h') _ _ (y Γ _ hΓ)
end
section
variable {w : World} {A : Around} {env : Env} {s : Shared}
theorem r_cont' {pos : Pos} {Q : Flow → Shared → Prop} (y : Q .cont s) : WP w A (exec (.Continue pos) env) Q s := by
  intro Γ p hΓ; exact y
theorem r_brk' {pos : Pos} {Q : Flow → Shared → Prop} (y : Q .brk s) : WP w A (exec (.Break pos) env) Q s := by
  intro Γ p hΓ; exact y
end
noncomputable def outerB : List Stmt := loopB (nthS (bodyOf (me 8 6)) 7)
noncomputable def innerB : List Stmt := loopB (nthS outerB 2)
section
variable {w : World} {A : Around} {gs : Array GenState} {dr : Drawn} {os : OsState} {g : Heap} {L : Addr}
noncomputable def InnerI (w : World) (gs : Array GenState) (dr : Drawn) (os : OsState) (g : Heap) (L : Addr) (a b : Str) (alo blo bhi i : Nat) (ks : List Nat) (it l D1 D2 G : Addr) (o1 : Obj) (rest : List (Addr × Obj)) (v0 v1 v2 v7 v8 v12 v13 : Option Value) (ta tb tk3 tk4 tki : Tok) (n : Nat) (s : Shared) : Prop :=
  ∃ (x : Nat) (h : Heap) (t : Nat) (f2 : Int → Option Value) (o2 oi : Obj) (m2 bi bj bs : Nat) (vj vk : Option Value) (ti tj ts : Tok), s = ⟨h, gs, dr, t, os⟩ ∧ n = ks.length - x ∧ x ≤ ks.length ∧
    Hp g L h (LV ns_flm [v0, v1, v2, some (.int (blo : Nat) tk3), some (.int (bhi : Nat) tk4), some (.str a ta), some (.str b tb), v7, v8, some (.int (bi : Nat) ti), some (.int (bj : Nat) tj), some (.int (bs : Nat) ts), v12, v13, some (.int (i : Nat) tki), some (.ref G), some (.ref D2), vj, vk])
      ((it, oi) :: (D2, o2) :: (D1, o1) :: (G, bmObj "dict.get" (.ref D1)) :: rest) ∧
    IsLI oi l x ∧ IM w o2 f2 m2 ∧ m2 ≤ x ∧ NewRow a.cps.toList b.cps.toList alo blo bhi i (· ∈ ks.take x) f2 ∧ Best a.cps.toList b.cps.toList alo blo bhi i (· ∈ ks.take x) bi bj bs
theorem InnerI.mk {w : World} {gs : Array GenState} {dr : Drawn} {os : OsState} {g : Heap} {L : Addr} {a b : Str} {alo blo bhi i : Nat} {ks : List Nat} {it l D1 D2 G : Addr} {o1 : Obj} {rest : List (Addr × Obj)} {v0 v1 v2 v7 v8 v12 v13 : Option Value} {ta tb tk3 tk4 tki : Tok} {n : Nat} {h : Heap} {t : Nat} {f2 : Int → Option Value} {o2 oi : Obj} {m2 bi bj bs : Nat} {vj vk : Option Value} {ti tj ts : Tok} (x : Nat) (p0 : n = ks.length - x) (p1 : x ≤ ks.length) (p2 : Hp g L h (LV ns_flm [v0, v1, v2, some (.int (blo : Nat) tk3), some (.int (bhi : Nat) tk4), some (.str a ta), some (.str b tb), v7, v8, some (.int (bi : Nat) ti), some (.int (bj : Nat) tj), some (.int (bs : Nat) ts), v12, v13, some (.int (i : Nat) tki), some (.ref G), some (.ref D2), vj, vk]) ((it, oi) :: (D2, o2) :: (D1, o1) :: (G, bmObj "dict.get" (.ref D1)) :: rest)) (p3 : IsLI oi l x) (p4 : IM w o2 f2 m2) (p5 : m2 ≤ x) (p6 : NewRow a.cps.toList b.cps.toList alo blo bhi i (· ∈ ks.take x) f2) (p7 : Best a.cps.toList b.cps.toList alo blo bhi i (· ∈ ks.take x) bi bj bs) : InnerI w gs dr os g L a b alo blo bhi i ks it l D1 D2 G o1 rest v0 v1 v2 v7 v8 v12 v13 ta tb tk3 tk4 tki n ⟨h, gs, dr, t, os⟩ :=
  ⟨x, h, t, f2, o2, oi, m2, bi, bj, bs, vj, vk, ti, tj, ts, rfl, p0, p1, p2, p3, p4, p5, p6, p7⟩
set_option maxHeartbeats 4000000 in
theorem inner_ok {d u : Nat} {a b : Str} {c alo blo bhi i : Nat} {it l D1 D2 G : Addr} {o1 : Obj} {f1 : Int → Option Value} {m1 : Nat} {rest : List (Addr × Obj)} {vs : List Value} {v0 v1 v2 v7 v8 v12 v13 : Option Value} {ta tb tk3 tk4 tki : Tok} {Q : Flow → Shared → Prop} {s : Shared} {jp : Pos}
    (hA : AOk A d u) (hb : b.length ≤ 1000) (hi : alo ≤ i) (hc : a.cps.toList[i]? = some c) (hD : (D1 == sysModules) = false)
    (hl : ∀ h m pre, Hp g L h m (pre ++ rest) → h.IsList l vs.toArray) (hv : IntsAre vs ((places c b.cps.toList).map Int.ofNat))
    (im1 : IM w o1 f1 m1) (R : Row a.cps.toList b.cps.toList alo blo bhi i f1) (h4 : bhi ≤ b.length) (h3 : blo ≤ bhi)
    (I0 : InnerI w gs dr os g L a b alo blo bhi i (places c b.cps.toList) it l D1 D2 G o1 rest v0 v1 v2 v7 v8 v12 v13 ta tb tk3 tk4 tki (places c b.cps.toList).length s)
    (y : ∀ (h : Heap) (t : Nat) (f2 : Int → Option Value) (o2 : Obj) (m2 bi bj bs : Nat) (vj vk : Option Value) (ti tj ts : Tok),
      Hp g L h (LV ns_flm [v0, v1, v2, some (.int (blo : Nat) tk3), some (.int (bhi : Nat) tk4), some (.str a ta), some (.str b tb), v7, v8, some (.int (bi : Nat) ti), some (.int (bj : Nat) tj), some (.int (bs : Nat) ts), v12, v13, some (.int (i : Nat) tki), some (.ref G), some (.ref D2), vj, vk])
        ((D2, o2) :: (D1, o1) :: (G, bmObj "dict.get" (.ref D1)) :: rest) → IM w o2 f2 m2 → m2 ≤ 1000 → Row a.cps.toList b.cps.toList alo blo bhi (i + 1) f2 → Best a.cps.toList b.cps.toList alo blo bhi (i + 1) (fun _ => False) bi bj bs → Q .next ⟨h, gs, dr, t, os⟩) :
    ForK w A (env_flm L) (.Name (Str.ofString "j") jp) innerB (.ref it) Q s := by
  have hlen : (places c b.cps.toList).length ≤ 1000 := by
    refine Nat.le_trans (List.length_filter_le _ _) ?_
    rw [List.length_range, Array.length_toList]; exact hb
  generalize hks : places c b.cps.toList = ks at *
  have fin : ∀ (h : Heap) (t : Nat) (f2 : Int → Option Value) (o2 : Obj) (m2 bi bj bs x : Nat) (vj vk : Option Value) (ti tj ts : Tok),
      Hp g L h (LV ns_flm [v0, v1, v2, some (.int (blo : Nat) tk3), some (.int (bhi : Nat) tk4), some (.str a ta), some (.str b tb), v7, v8, some (.int (bi : Nat) ti), some (.int (bj : Nat) tj), some (.int (bs : Nat) ts), v12, v13, some (.int (i : Nat) tki), some (.ref G), some (.ref D2), vj, vk])
        ((D2, o2) :: (D1, o1) :: (G, bmObj "dict.get" (.ref D1)) :: rest) → IM w o2 f2 m2 → m2 ≤ 1000 → NewRow a.cps.toList b.cps.toList alo blo bhi i (· ∈ ks.take x) f2 → Best a.cps.toList b.cps.toList alo blo bhi i (· ∈ ks.take x) bi bj bs →
      (∀ j ∈ ks, j ∉ ks.take x → bhi ≤ j) → Q .next ⟨h, gs, dr, t, os⟩ := by
    intro h t f2 o2 m2 bi bj bs x vj vk ti tj ts H im hm N Bt hr
    have all : ∀ j, blo ≤ j → j < bhi → eqc a.cps.toList b.cps.toList i j = true → j ∈ ks.take x := by
      intro j h1 h2 e
      have hj : j ∈ ks := by
        rw [← hks, mem_places]
        unfold eqc at e
        rw [hc] at e
        cases q : b.cps.toList[j]? with
        | none => rw [q] at e; cases e
        | some c' => rw [q] at e; simp at e; rw [e]
      by_cases p : j ∈ ks.take x
      · exact p
      · exact absurd (hr j hj p) (by (first|lia|omega))
    exact y h t f2 o2 m2 bi bj bs vj vk ti tj ts H im hm (N.row all) (Bt.next all)
  refine for_inv (InnerI w gs dr os g L a b alo blo bhi i ks it l D1 D2 G o1 rest v0 v1 v2 v7 v8 v12 v13 ta tb tk3 tk4 tki) (fun n s C hC hI => ?_) ks.length I0
  obtain ⟨x, h, t, f2, o2, oi, m2, bi, bj, bs, vj, vk, ti, tj, ts, rfl, rfl, hx, H, hLI, im, hm, N, Bt⟩ := hI
  have hL := hl h _ [_, _, _, _] H
  by_cases hlt : x < ks.length
  · obtain ⟨tj', hget⟩ := hv.get x (ks[x] : Int) (by simp [hlt])
    refine nx_list 0 H rfl hLI hL (x := .int (ks[x] : Int) tj') (by simpa using hget) fun h2 oi' hLI' H2 => ?_
    dsimp only [List.set] at H2 ⊢
    refine a_name ?_
    (with_reducible refine st_flm_17 ‹_› ?_); intro h3' t3 H3
    have hmem : ks[x] ∈ places c b.cps.toList := hks ▸ List.getElem_mem hlt
    have hbJ := mem_places.mp hmem
    have hJb : ks[x] < b.length := by
      have := (List.getElem?_eq_some_iff.mp hbJ).1
      rwa [Array.length_toList] at this
    have heq : eqc a.cps.toList b.cps.toList i ks[x] = true := by unfold eqc; rw [hc, hbJ]; simp
    have hasc : ∀ z, z ∈ ks.take x → z < ks[x] := by
      intro z hz
      have hp : ks.Pairwise (· < ·) := hks ▸ places_asc _ _
      obtain ⟨k, hk, rfl⟩ := List.getElem_of_mem hz
      rw [List.length_take] at hk
      rw [List.getElem_take]
      exact List.pairwise_iff_getElem.mp hp k x (by (first|lia|omega)) hlt (by (first|lia|omega))
    have htk : ∀ z, z ∈ ks.take (x + 1) ↔ (z ∈ ks.take x ∨ z = ks[x]) := by
      intro z
      rw [List.take_succ_eq_append_getElem hlt, List.mem_append, List.mem_singleton]
    have hset : (fun z => z ∈ ks.take (x + 1)) = (fun z => z ∈ ks.take x ∨ z = ks[x]) := funext fun z => propext (htk z)
    have hgt : ∀ j ∈ ks, j ∉ ks.take x → ks[x] ≤ j := by
      intro j hj hn
      have hp : ks.Pairwise (· < ·) := hks ▸ places_asc _ _
      obtain ⟨k, hk, rfl⟩ := List.getElem_of_mem hj
      by_cases q : k < x
      · exact absurd (List.mem_iff_getElem.mpr ⟨k, by rw [List.length_take]; (first|lia|omega), by rw [List.getElem_take]⟩) hn
      · by_cases q2 : k = x
        · subst q2; exact Nat.le_refl _
        · exact Nat.le_of_lt (List.pairwise_iff_getElem.mp hp x k hlt hk (by (first|lia|omega)))
    generalize hJ : ks[x] = J at *
    refine r_cons ?_
    repeat (first | (with_reducible first|refine ld_flm_3 ‹_› ?_|refine ld_flm_17 ‹_› ?_) | (with_reducible first|refine t_cmp ?_|refine t_bool ?_|refine c_lt ?_|refine r_if ?_))
    by_cases q1 : J < blo
    · rw [if_pos (decide_eq_true (by (first|lia|omega)))]
      repeat (first | fail | (with_reducible refine r_cons ?_))
      refine r_cont' ?_
      refine hC (ks.length - (x + 1)) _ (by (first|lia|omega)) (InnerI.mk (x + 1) rfl hlt H3 hLI' im (by (first|lia|omega)) ?_ ?_)
      · exact N.skip (fun j p => (htk j).mpr (.inl p)) fun j p h1 h2 => by
          rcases (htk j).mp p with p | p
          · exact p
          · (first|lia|omega)
      · exact Bt.skip (fun j p => (htk j).mpr (.inl p)) fun j p hn => by
          rcases (htk j).mp p with p | p
          · exact absurd p hn
          · exact .inl (by (first|lia|omega))
    · rw [if_neg (by simpa using (by (first|lia|omega) : ¬ (J : Int) < blo))]
      repeat (first | (with_reducible first|refine ld_flm_4 ‹_› ?_|refine ld_flm_17 ‹_› ?_) | (with_reducible first|refine t_cmp ?_|refine t_bool ?_|refine c_ge ?_|refine r_if ?_|refine r_cons ?_|refine r_nil ?_))
      by_cases q2 : bhi ≤ J
      · rw [if_pos (decide_eq_true (by (first|lia|omega)))]
        repeat (first | fail | (with_reducible refine r_cons ?_))
        refine r_brk' ?_
        exact fin _ _ f2 o2 m2 bi bj bs x _ _ _ _ _ (H3.drop 0) im (by (first|lia|omega)) N Bt (fun j hj hn => Nat.le_trans q2 (hgt j hj hn))
      · rw [if_neg (by simpa using (by (first|lia|omega) : ¬ (bhi : Int) ≤ J))]
        repeat (first | fail | (with_reducible first|refine r_cons ?_|refine r_nil ?_))
        refine r_two ?_
        repeat (first | (with_reducible first|refine ld_flm_15 ‹_› ?_|refine ld_flm_17 ‹_› ?_) | (first|(with_reducible first|refine e_bin ?_|refine e_call ?_|refine sp_cons ?_|refine sp_nil ?_)|(with_reducible refine e_int ?_; intro _ _)|(with_reducible refine o_sub ?_; intro _ _)|with_reducible refine call_rule ?_))
        refine keep_bm (H3.at 3 rfl) rfl rfl ?_
        refine call_bm_get (H3.at 3 rfl) (intKind_is pw w _ _) (im1.map (H3.at 2 rfl)) hD ?_
        rename_i _ _ tz tz'
        obtain ⟨tkv, hval⟩ : ∃ tkv, (f1 ((J : Int) - 1)).getD (.int 0 tz) = .int ((rn a.cps.toList b.cps.toList alo blo i J : Nat) : Int) tkv := by
          rcases R J (by (first|lia|omega)) (by (first|lia|omega)) with ⟨e1, e2⟩ | ⟨tk, e⟩
          · rw [e1, e2]; exact ⟨_, rfl⟩
          · rw [e]; exact ⟨_, rfl⟩
        rw [hval]
        have hrn : rn a.cps.toList b.cps.toList alo blo (i + 1) (J + 1) = rn a.cps.toList b.cps.toList alo blo i J + 1 := rn_eq hi (by (first|lia|omega)) heq
        have hk1 : ((rn a.cps.toList b.cps.toList alo blo i J : Nat) : Int) + 1 = ((rn a.cps.toList b.cps.toList alo blo (i + 1) (J + 1) : Nat) : Int) := by rw [hrn]; (first|lia|omega)
        have N' := fun tk => N.step (tk := tk) (j := J) (by (first|lia|omega)) (by (first|lia|omega))
        have Bl := Bt.look hi (by (first|lia|omega) : blo ≤ J) (by (first|lia|omega)) hasc _ rfl
        have hval' := (rn_valid (a := a.cps.toList) (b := b.cps.toList) (alo := alo) (blo := blo) (i + 1) (J + 1) (by (first|lia|omega)) (by (first|lia|omega)))
        generalize rn a.cps.toList b.cps.toList alo blo (i + 1) (J + 1) = r at *
        repeat (first | fail | (first|(with_reducible refine e_int ?_; intro _ _)|(with_reducible refine o_add ?_; intro _ _)))
        rw [hk1]
        rename_i tk9 t9
        refine a_name ?_
        (with_reducible refine st_flm_18 ‹_› ?_); intro h4' t4 H4
        refine a_sub ?_
        repeat (first | (with_reducible first|refine ld_flm_16 ‹_› ?_|refine ld_flm_17 ‹_› ?_) | fail)
        refine s_int 1 H4 rfl im (by (first|lia|omega)) fun h5' t5 o5 im5 H5 => ?_
        dsimp only [List.set] at H5
        repeat (first | (with_reducible first|refine ld_flm_11 ‹_› ?_|refine ld_flm_18 ‹_› ?_) | (with_reducible first|refine t_cmp ?_|refine t_bool ?_|refine c_gt ?_|refine r_if ?_|refine r_cons ?_))
        by_cases q3 : bs < r
        · rw [if_pos (decide_eq_true (by (first|lia|omega)))]
          repeat (first | fail | (with_reducible refine r_cons ?_))
          refine r_swap [Str.ofString "besti", Str.ofString "bestj", Str.ofString "bestsize"] (by with_unfolding_all rfl) ?_
          repeat (first | (with_reducible first|refine ld_flm_14 ‹_› ?_|refine ld_flm_17 ‹_› ?_|refine ld_flm_18 ‹_› ?_) | (first|(with_reducible first|refine e_bin ?_|refine sp_cons ?_|refine sp_nil ?_)|(with_reducible refine e_int ?_; intro _ _)|(with_reducible refine o_add ?_; intro _ _)|(with_reducible refine o_sub ?_; intro _ _)|with_reducible refine e_tuple ‹_› ?_|(with_reducible refine n_tuple ‹_› ?_; intro _ _ _ _ _ _)))
          refine k_swap3 hA.hh (by assumption) fun h6' H6 => ?_
          repeat (first | (with_reducible refine stn_cons ?_) | with_reducible refine stn_nil ?_ | ((with_reducible first|refine st_flm_9 ‹_› ?_|refine st_flm_10 ‹_› ?_|refine st_flm_11 ‹_› ?_); intro _ _ _) | fail | (with_reducible first|refine r_nil ?_|refine r_nilT ?_))
          rename_i h7' t7 H7
          have e1 : (i : Int) - (r : Int) + 1 = ((i + 1 - r : Nat) : Int) := by (first|lia|omega)
          have e2 : (J : Int) - (r : Int) + 1 = ((J + 1 - r : Nat) : Int) := by (first|lia|omega)
          rw [e1, e2] at H7
          refine hC (ks.length - (x + 1)) _ (by (first|lia|omega)) (InnerI.mk (x + 1) rfl hlt H7 hLI' im5 (by (first|lia|omega)) ?_ ?_)
          · rw [hset]; exact N' _
          · rw [hset]; exact Bl.1 q3
        · rw [if_neg (by simpa using (by (first|lia|omega) : ¬ (bs : Int) < r))]
          repeat (first | fail | (with_reducible first|refine r_nil ?_|refine r_nilT ?_))
          refine hC (ks.length - (x + 1)) _ (by (first|lia|omega)) (InnerI.mk (x + 1) rfl hlt H5 hLI' im5 (by (first|lia|omega)) ?_ ?_)
          · rw [hset]; exact N' _
          · rw [hset]; exact Bl.2 (by (first|lia|omega))
  · have hxe : x = ks.length := by (first|lia|omega)
    subst hxe
    refine nx_list_end 0 hA.hh H rfl hLI hL (by rw [List.getElem?_toArray, List.getElem?_eq_none_iff, hv.length]; simp) fun h2 H2 => ?_
    dsimp only [List.eraseIdx] at H2 ⊢
    exact fin h2 t f2 o2 m2 bi bj bs ks.length vj vk ti tj ts H2 im (by (first|lia|omega)) N Bt (fun j hj hn => absurd (by rw [List.take_length]; exact hj) hn)
end
theorem Hp.perm {g h : Heap} {L : Addr} {m : Str → Option Value} {news news' : List (Addr × Obj)} (H : Hp g L h m news) (p : news.Perm news') : Hp g L h m news' :=
  ⟨H.F, fun q hq => H.N q (p.mem_iff.mpr hq), (p.map _).nodup_iff.mp H.nd⟩
theorem Hp.notMod {w : World} {g h : Heap} {L : Addr} {m : Str → Option Value} {news : List (Addr × Obj)} (B : Bs w g) (H : Hp g L h m news) : (h.objs.size == sysModules) = false := by
  have h1 : (203 : Nat) < g.objs.size := Heap.lt_size (B.K _ _ (lk_203 _))
  have h2 : g.objs.size ≤ L := H.F.above
  have h3 : L < h.objs.size := H.ltL
  rw [beq_eq_false_iff_ne]
  show ¬ (h.objs.size = (1 : Nat))
  have h2' := Nat.lt_of_lt_of_le h1 h2
  have h3' := Nat.lt_trans h2' h3
  exact Nat.ne_of_gt (Nat.lt_trans (by decide) h3')
theorem mp7 {α : Type} (x1 x2 x3 x4 x5 x6 x7 : α) : [x1, x2, x3, x4, x5, x6, x7].Perm [x1, x2, x6, x3, x4, x5, x7] := by
  refine .cons _ (.cons _ ?_)
  have : [x3, x4, x5, x6, x7].Perm ([x6] ++ [x3, x4, x5, x7]) := by
    have := (List.perm_middle (a := x6) (l₁ := [x3, x4, x5]) (l₂ := [x7]))
    simpa using this
  simpa using this
section
variable {w : World} {A : Around} {env : Env} {s : Shared}
theorem cw_dict_get {K : Type} [DecidableEq K] {knd : KeyKind pw w K} {d : Addr} {pos : Pos} {e1 e2 : Expr} {Q : Value → Shared → Prop} (hd : (d == sysModules) = false)
    (y : WP w A (eval e1 env) (fun key s₁ => WP w A (eval e2 env) (fun dflt s₂ => ∃ k f, knd.is k key = true ∧ s₂.heap.MapOf knd d f ∧ Q ((f k).getD dflt) { s₂ with toks := s₂.toks + 1 }) s₁) s)
    (he : backTo pos (starEach [e1, e2] env) = [(false, eval e1 env), (false, eval e2 env)] := by with_unfolding_all rfl) : WP w A (callWith pos (.builtin "dict.get") [.ref d] (backTo pos (starEach [e1, e2] env)) []) Q s := by
  rw [he]
  exact wpAny_dict_get2 hd y
end
section
variable {w : World} {A : Around} {gs : Array GenState} {dr : Drawn} {os : OsState} {h : Heap} {t : Nat} {d u : Nat}
noncomputable def OuterI (w : World) (gs : Array GenState) (dr : Drawn) (os : OsState) (g : Heap) (L : Addr) (a b : Str) (alo ahi blo bhi : Nat) (it NL q J : Addr) (onl : Obj) (v0 v1 v2 v7 : Option Value) (ta tb tk3 tk4 : Tok) (n : Nat) (s : Shared) : Prop :=
  ∃ (i : Nat) (h : Heap) (t : Nat) (f1 : Int → Option Value) (o1 : Obj) (D1 : Addr) (m1 bi bj bs : Nat) (vi vg vn vj vk : Option Value) (ti tj ts : Tok), s = ⟨h, gs, dr, t, os⟩ ∧ n = ahi - i ∧ alo ≤ i ∧ i ≤ ahi ∧
    Hp g L h (LV ns_flm [v0, v1, v2, some (.int (blo : Nat) tk3), some (.int (bhi : Nat) tk4), some (.str a ta), some (.str b tb), v7, some (.ref q), some (.int (bi : Nat) ti), some (.int (bj : Nat) tj), some (.int (bs : Nat) ts), some (.ref D1), some (.ref NL), vi, vg, vn, vj, vk])
      [(it, riObj (i : Nat) ((ahi - i : Nat) : Int)), (NL, onl), (D1, o1), (q, bmObj "set.__contains__" (.ref J))] ∧
    IM w o1 f1 m1 ∧ m1 ≤ 1000 ∧ (D1 == sysModules) = false ∧ Row a.cps.toList b.cps.toList alo blo bhi i f1 ∧ Best a.cps.toList b.cps.toList alo blo bhi i (fun _ => False) bi bj bs
theorem OuterI.mk {w : World} {gs : Array GenState} {dr : Drawn} {os : OsState} {g : Heap} {L : Addr} {a b : Str} {alo ahi blo bhi : Nat} {it NL q J : Addr} {onl : Obj} {v0 v1 v2 v7 : Option Value} {ta tb tk3 tk4 : Tok} {n : Nat} {h : Heap} {t : Nat} {f1 : Int → Option Value} {o1 : Obj} {D1 : Addr} {m1 bi bj bs : Nat} {vi vg vn vj vk : Option Value} {ti tj ts : Tok} (i : Nat) (p0 : n = ahi - i) (p1 : alo ≤ i) (p2 : i ≤ ahi) (p3 : Hp g L h (LV ns_flm [v0, v1, v2, some (.int (blo : Nat) tk3), some (.int (bhi : Nat) tk4), some (.str a ta), some (.str b tb), v7, some (.ref q), some (.int (bi : Nat) ti), some (.int (bj : Nat) tj), some (.int (bs : Nat) ts), some (.ref D1), some (.ref NL), vi, vg, vn, vj, vk]) [(it, riObj (i : Nat) ((ahi - i : Nat) : Int)), (NL, onl), (D1, o1), (q, bmObj "set.__contains__" (.ref J))]) (p4 : IM w o1 f1 m1) (p5 : m1 ≤ 1000) (p6 : (D1 == sysModules) = false) (p7 : Row a.cps.toList b.cps.toList alo blo bhi i f1) (p8 : Best a.cps.toList b.cps.toList alo blo bhi i (fun _ => False) bi bj bs) : OuterI w gs dr os g L a b alo ahi blo bhi it NL q J onl v0 v1 v2 v7 ta tb tk3 tk4 n ⟨h, gs, dr, t, os⟩ :=
  ⟨i, h, t, f1, o1, D1, m1, bi, bj, bs, vi, vg, vn, vj, vk, ti, tj, ts, rfl, p0, p1, p2, p3, p4, p5, p6, p7, p8⟩
set_option maxHeartbeats 4000000 in
theorem outer_ok {g : Heap} {L : Addr} {a b : Str} {alo ahi blo bhi : Nat} {it NL q J D : Addr} {onl : Obj} {v0 v1 v2 : Option Value} {ta tb tk3 tk4 : Tok} {Q : Flow → Shared → Prop} {s : Shared} {jp : Pos}
    (B : Bs w g) (hA : AOk A d u) (ha : a.length ≤ 1000) (hb : b.length ≤ 1000) (h2 : ahi ≤ a.length) (h4 : bhi ≤ b.length) (h3 : blo ≤ bhi) (hD : B2J w g D b.cps.toList) (hnl : IsL onl #[])
    (I0 : OuterI w gs dr os g L a b alo ahi blo bhi it NL q J onl v0 v1 v2 (some (.ref D)) ta tb tk3 tk4 (ahi - alo) s)
    (y : ∀ (h : Heap) (t : Nat) (bi bj bs : Nat) (v12 v13 vi vg vn vj vk : Option Value) (ti tj ts : Tok) (news : List (Addr × Obj)),
      Hp g L h (LV ns_flm [v0, v1, v2, some (.int (blo : Nat) tk3), some (.int (bhi : Nat) tk4), some (.str a ta), some (.str b tb), some (.ref D), some (.ref q), some (.int (bi : Nat) ti), some (.int (bj : Nat) tj), some (.int (bs : Nat) ts), v12, v13, vi, vg, vn, vj, vk]) [(q, bmObj "set.__contains__" (.ref J))] →
      Best a.cps.toList b.cps.toList alo blo bhi ahi (fun _ => False) bi bj bs → Q .next ⟨h, gs, dr, t, os⟩) :
    ForK w A (env_flm L) (.Name (Str.ofString "i") jp) outerB (.ref it) Q s := by
  refine for_inv (OuterI w gs dr os g L a b alo ahi blo bhi it NL q J onl v0 v1 v2 (some (.ref D)) ta tb tk3 tk4) (fun n s C hC hI => ?_) _ I0
  obtain ⟨i, h, t, f1, o1, D1, m1, bi, bj, bs, vi, vg, vn, vj, vk, ti, tj, ts, rfl, rfl, hi1, hi2, H, im, hm, hd1, R, Bt⟩ := hI
  by_cases hlt : i < ahi
  · refine nx_range 0 H rfl (by (first|lia|omega)) fun h1 t1 tki H1 => ?_
    dsimp only [List.set] at H1 ⊢
    refine a_name ?_
    (with_reducible refine st_flm_14 ‹_› ?_); intro h2' t2 H2
    refine r_cons ?_
    repeat (first | (with_reducible refine ld_flm_12 ‹_› ?_) | (with_reducible refine r_assign ?_) | (with_reducible refine e_attr ?_))
    refine ga_dict_get (i := 2) hA.hh H2 rfl im fun G h3' t3 H3 => ?_
    repeat (first | fail | fail | (with_reducible refine g_go ?_))
    (with_reducible refine st_flm_15 ‹_› ?_); intro h4' t4 H4
    repeat (first | fail | (with_reducible first|refine r_assign ?_|refine r_cons ?_))
    refine e_dictN H4 fun D2 h5' o2 hD2 im2 H5 => ?_
    (with_reducible refine st_flm_16 ‹_› ?_); intro h6' t6 H6
    refine r_cons ?_
    refine r_for ?_
    obtain ⟨fD, hmD, hdD, hplaces⟩ := hD
    refine e_meth ?_
    repeat (first | (with_reducible refine ld_flm_7 ‹_› ?_))
    have hmD' := fun h' (k : Ext g h') => show h'.MapOf (strKind pw w) D fD from let ⟨o, es, ep, e, r⟩ := hmD; ⟨o, es, ep, k _ _ e, r⟩
    refine getMethod_builtin (T := "dict") (hmD' _ H6.F.keep).typeIs F.plainAttrs_dict F.slot_dict_get F.type_dict_get (hmD' _ H6.F.keep).noDict ?_
    refine cw_dict_get (knd := strKind pw w) hdD ?_
    refine e_sub ?_
    repeat (first | (with_reducible first|refine ld_flm_5 ‹_› ?_|refine ld_flm_14 ‹_› ?_) | fail)
    have hlen : i < a.length := by (first|lia|omega)
    refine x_str (c := a.cps[i]'hlen) (by (first|lia|omega)) (by rw [Int.toNat_natCast]; exact Array.getElem?_eq_getElem hlen) (by (first|lia|omega)) fun tvc tc => ?_
    repeat (first | (with_reducible refine ld_flm_13 ‹_› ?_) | fail)
    refine ⟨_, fD, strKind_is pw w _ _, hmD' _ H6.F.keep, ?_⟩
    generalize hcc : a.cps[i] = c
    have hca : a.cps.toList[i]? = some c := by rw [Array.getElem?_toList, Array.getElem?_eq_getElem hlen, hcc]
    have hrest : ∀ (h' : Heap) (m' : Str → Option Value) (pre : List (Addr × Obj)), Hp g L h' m' (pre ++ [(it, riObj ((i : Int) + 1) (((ahi - i : Nat) : Int) - 1)), (NL, onl), (q, bmObj "set.__contains__" (.ref J))]) → h'.IsList NL (([] : List Value).toArray) := by
      intro h' m' pre H'
      have := (H'.N (NL, onl) (by simp)).1
      exact ⟨onl, this, hnl.1, hnl.2⟩
    have core : ∀ (h7 : Heap) (t7 : Nat) (it2 l : Addr) (oi : Obj) (vs : List Value) (jp : Pos) (Q' : Flow → Shared → Prop), IsLI oi l 0 → (∀ h m pre, Hp g L h m (pre ++ [(it, riObj ((i : Int) + 1) (((ahi - i : Nat) : Int) - 1)), (NL, onl), (q, bmObj "set.__contains__" (.ref J))]) → h.IsList l vs.toArray) → IntsAre vs ((places c b.cps.toList).map Int.ofNat) →
        Hp g L h7 (LV ns_flm [v0, v1, v2, some (.int (blo : Nat) tk3), some (.int (bhi : Nat) tk4), some (.str a ta), some (.str b tb), some (.ref D), some (.ref q), some (.int (bi : Nat) ti), some (.int (bj : Nat) tj), some (.int (bs : Nat) ts), some (.ref D1), some (.ref NL), some (.int (i : Nat) tki), some (.ref G), some (.ref D2), vj, vk])
          [(it2, oi), (D2, o2), (G, bmObj "dict.get" (.ref D1)), (it, riObj ((i : Int) + 1) (((ahi - i : Nat) : Int) - 1)), (NL, onl), (D1, o1), (q, bmObj "set.__contains__" (.ref J))] →
        (∀ (h : Heap) (t : Nat) (f2 : Int → Option Value) (o2 : Obj) (m2 bi bj bs : Nat) (vj vk : Option Value) (ti tj ts : Tok),
          Hp g L h (LV ns_flm [v0, v1, v2, some (.int (blo : Nat) tk3), some (.int (bhi : Nat) tk4), some (.str a ta), some (.str b tb), some (.ref D), some (.ref q), some (.int (bi : Nat) ti), some (.int (bj : Nat) tj), some (.int (bs : Nat) ts), some (.ref D1), some (.ref NL), some (.int (i : Nat) tki), some (.ref G), some (.ref D2), vj, vk])
            [(D2, o2), (D1, o1), (G, bmObj "dict.get" (.ref D1)), (it, riObj ((i : Int) + 1) (((ahi - i : Nat) : Int) - 1)), (NL, onl), (q, bmObj "set.__contains__" (.ref J))] → IM w o2 f2 m2 → m2 ≤ 1000 → Row a.cps.toList b.cps.toList alo blo bhi (i + 1) f2 → Best a.cps.toList b.cps.toList alo blo bhi (i + 1) (fun _ => False) bi bj bs → Q' .next ⟨h, gs, dr, t, os⟩) →
        ForK w A (env_flm L) (.Name (Str.ofString "j") jp) innerB (.ref it2) Q' ⟨h7, gs, dr, t7, os⟩ := by
      intro h7 t7 it2 l oi vs jp Q' hLI hl hv H7 y'
      refine inner_ok hA hb hi1 hca hd1 hl hv im R h4 h3 ?_ y'
      refine InnerI.mk 0 rfl (Nat.zero_le _) (H7.perm (mp7 _ _ _ _ _ _ _)) hLI im2 (Nat.le_refl _) ?_ ?_
      · have : (fun z => z ∈ (places c b.cps.toList).take 0) = fun _ => False := funext fun z => by simp
        rw [this]; exact NewRow.start
      · have : (fun z => z ∈ (places c b.cps.toList).take 0) = fun _ => False := funext fun z => by simp
        rw [this]; exact Bt
    have hd2 : (D2 == sysModules) = false := by
      rw [hD2]; exact H4.notMod B
    rcases hplaces c with ⟨l, vs, e1, e2, e3⟩ | ⟨e1, e2⟩
    · rw [e1]
      refine it_list (l := l) (items := vs.toArray) H6 (let ⟨o, e, r⟩ := e2; ⟨o, H6.F.keep _ _ e, r⟩) fun it2 h7 oi hLI H7 => ?_
      refine core _ _ it2 l oi vs _ _ hLI (fun h m pre H' => let ⟨o, e, r⟩ := e2; ⟨o, H'.F.keep _ _ e, r⟩) e3 H7 ?_
      intro h8 t8 f8 o8 m8 bi8 bj8 bs8 vj8 vk8 ti8 tj8 ts8 H8 im8 hm8 R8 B8
      refine r_cons ?_
      repeat (first | (with_reducible refine ld_flm_16 ‹_› ?_) | (with_reducible refine r_assign ?_))
      (with_reducible refine st_flm_12 ‹_› ?_); intro h9 t9 H9
      repeat (first | fail | (with_reducible refine r_nilT ?_))
      have H10 := ((H9.drop 2).drop 1).perm (show [(D2, o8), (it, riObj ((i : Int) + 1) (((ahi - i : Nat) : Int) - 1)), (NL, onl), (q, bmObj "set.__contains__" (.ref J))].Perm [(it, riObj ((i : Int) + 1) (((ahi - i : Nat) : Int) - 1)), (NL, onl), (D2, o8), (q, bmObj "set.__contains__" (.ref J))] from (List.Perm.swap _ _ _).trans (.cons _ (.swap _ _ _)))
      rw [show (i : Int) + 1 = ((i + 1 : Nat) : Int) by (first|lia|omega), show ((ahi - i : Nat) : Int) - 1 = ((ahi - (i + 1) : Nat) : Int) by (first|lia|omega)] at H10
      exact hC (ahi - (i + 1)) _ (by (first|lia|omega)) (OuterI.mk (i + 1) rfl (by (first|lia|omega)) (by (first|lia|omega)) H10 im8 hm8 hd2 R8 B8)
    · rw [e1]
      refine it_list (l := NL) (items := ([] : List Value).toArray) H6 ⟨onl, H6.at 3 rfl, hnl.1, hnl.2⟩ fun it2 h7 oi hLI H7 => ?_
      refine core _ _ it2 NL oi [] _ _ hLI hrest (by rw [e2]; exact .nil) H7 ?_
      intro h8 t8 f8 o8 m8 bi8 bj8 bs8 vj8 vk8 ti8 tj8 ts8 H8 im8 hm8 R8 B8
      refine r_cons ?_
      repeat (first | (with_reducible refine ld_flm_16 ‹_› ?_) | (with_reducible refine r_assign ?_))
      (with_reducible refine st_flm_12 ‹_› ?_); intro h9 t9 H9
      repeat (first | fail | (with_reducible refine r_nilT ?_))
      have H10 := ((H9.drop 2).drop 1).perm (show [(D2, o8), (it, riObj ((i : Int) + 1) (((ahi - i : Nat) : Int) - 1)), (NL, onl), (q, bmObj "set.__contains__" (.ref J))].Perm [(it, riObj ((i : Int) + 1) (((ahi - i : Nat) : Int) - 1)), (NL, onl), (D2, o8), (q, bmObj "set.__contains__" (.ref J))] from (List.Perm.swap _ _ _).trans (.cons _ (.swap _ _ _)))
      rw [show (i : Int) + 1 = ((i + 1 : Nat) : Int) by (first|lia|omega), show ((ahi - i : Nat) : Int) - 1 = ((ahi - (i + 1) : Nat) : Int) by (first|lia|omega)] at H10
      exact hC (ahi - (i + 1)) _ (by (first|lia|omega)) (OuterI.mk (i + 1) rfl (by (first|lia|omega)) (by (first|lia|omega)) H10 im8 hm8 hd2 R8 B8)
  · have : i = ahi := by (first|lia|omega)
    subst this
    refine nx_range_end 0 hA.hh H rfl (by (first|lia|omega)) fun h2 H2 => ?_
    dsimp only [List.eraseIdx] at H2 ⊢
    exact y h2 t bi bj bs _ _ _ _ _ _ _ ti tj ts [] (H2.skip 2) Bt
end
section
variable {w : World} {A : Around} {gs : Array GenState} {dr : Drawn} {os : OsState} {h : Heap} {t : Nat} {d u : Nat}
theorem c_eqs {x y : Str} {ta tb : Tok} {Q : Value → Shared → Prop} {s : Shared} (z : Q (.bool (x.cps.toList == y.cps.toList)) s) : WP w A (compareOp .Eq (.str x ta) (.str y tb)) Q s := P.eq_str z
theorem k_dec {env : Env} {rest : List Expr} {Q : Bool → Shared → Prop} {b : Bool} {s : Shared} (y1 : b = true → WP w A (allTrue .And rest env) Q s) (y2 : b = false → Q false s) : AndK w A env rest Q b s := by
  cases b with
  | true => exact y1 rfl
  | false => exact y2 rfl
theorem x_strN {value slice : Expr} {x : Str} {tk u : Tok} {i : Int} {Q : Value → Shared → Prop} (k : Nat) (hi : i = (k : Int)) (hk : k < x.length) (hx : x.length ≤ 1000000)
    (y : ∀ c tv t', x.cps.toList[k]? = some c → Q (.str ⟨#[c]⟩ tv) ⟨h, gs, dr, t', os⟩)
    (hs : subscripted slice false (.str x tk) (.int i u) = operate [.str x tk, .int i u] (getItem (.str x tk) (.int i u)) := by with_unfolding_all rfl) (hg : ∀ r, letTemporaryGo value (.str x tk) r = pure () := by intro _; with_unfolding_all rfl) :
    WP w A (subscriptTail value slice (.str x tk) (.int i u)) Q ⟨h, gs, dr, t, os⟩ := by
  have hk' : k < x.cps.size := hk
  have hc : x.cps.toList[k]? = some (x.cps[k]'hk') := by rw [Array.getElem?_toList, Array.getElem?_eq_getElem hk']
  exact x_str (c := x.cps[k]'hk') (by (first|lia|omega)) (by rw [hi, Int.toNat_natCast]; exact Array.getElem?_eq_getElem hk') hx (fun tv t' => y _ tv t' hc) hs hg
theorem ne_of_eqc {a b : List Nat} {i j c c' : Nat} (e : eqc a b i j = false) (h1 : a[i]? = some c) (h2 : b[j]? = some c') : (((⟨#[c]⟩ : Str).cps.toList == (⟨#[c']⟩ : Str).cps.toList) : Bool) = false := by
  unfold eqc at e
  rw [h1, h2] at e
  simp at e ⊢
  exact e
noncomputable def tailN (k : Nat) : List Stmt := (bodyOf (me 8 6)).drop k
theorem keep142_run (p : Program) (P : Params) (n t : Nat) : run (kfP P) fastT ⟨p, P⟩ 400 none n t (nn 2) Keeper (keeperOf (.ref 142)) = some ⟨.ok .machine, t, [], n, []⟩ := by kernel_rfl!
theorem keep142 {Q : Keeper → Shared → Prop} {g : Heap} (B : Bs w g) (k : Ext g h) (hh : A.handled = none) (y : Q .machine ⟨h, gs, dr, t, os⟩) : WP w A (keeperOf (.ref 142)) Q ⟨h, gs, dr, t, os⟩ := by
  have hr := keep142_run pw w.params h.objs.size t
  rw [← table_eq_fast] at hr
  exact run_sound hr (given_of B k) hh rfl rfl y
set_option maxHeartbeats 4000000 in
theorem tail_ok {g : Heap} {L q J : Addr} {a b : Str} {ta tb tk1 tk2 tk3 tk4 ti tj ts : Tok} {alo ahi blo bhi bi bj bs : Nat} {v0 v7 v12 v13 v14 v15 v16 v17 v18 : Option Value} {Q : Value → Shared → Prop}
    (B : Bs w g) (hA : AOk A d u) (hd : d + 1 < recursionLimit) (ha : a.length ≤ 1000) (hb : b.length ≤ 1000) (h2 : ahi ≤ a.length) (h4 : bhi ≤ b.length)
    (H : Hp g L h (LV ns_flm [v0, some (.int (alo : Nat) tk1), some (.int (ahi : Nat) tk2), some (.int (blo : Nat) tk3), some (.int (bhi : Nat) tk4), some (.str a ta), some (.str b tb), v7, some (.ref q), some (.int (bi : Nat) ti), some (.int (bj : Nat) tj), some (.int (bs : Nat) ts), v12, v13, v14, v15, v16, v17, v18]) [(q, bmObj "set.__contains__" (.ref J))])
    (hJ : g.SetOf (strKind pw w) J (fun _ => false) 0) (M : LM a.cps.toList b.cps.toList alo ahi blo bhi bi bj bs)
    (y : ∀ x dd h' t' ti tj tk, Ext h h' → h.get? x = none → h'.get? x = some (mObj dd #[.int (bi : Nat) ti, .int (bj : Nat) tj, .int (bs : Nat) tk]) → Q (.ref x) ⟨h', gs, dr, t', os⟩) :
    WP w A (execs (tailN 8) (env_flm L)) (Ret Q) ⟨h, gs, dr, t, os⟩ := by
  have hJh : h.SetOf (strKind pw w) J (fun _ => false) 0 := let ⟨o, es, ep, tb, e, r⟩ := hJ; ⟨o, es, ep, tb, H.F.keep _ _ e, r⟩
  have la : a.cps.size = a.length := rfl
  have lb : b.cps.size = b.length := rfl
  have lo := M.lo
  have hi := M.hi
  have hA1 := hA.hh
  have hq : h.get? q = some (bmObj "set.__contains__" (.ref J)) := H.at 0 rfl
  have R12 : ∀ t', WP w A (execs (tailN 12) (env_flm L)) (Ret Q) ⟨h, gs, dr, t', os⟩ := by
    intro t'
    refine r_cons ?_
    repeat (first | (with_reducible first|refine ld_flm_9 ‹_› ?_|refine ld_flm_10 ‹_› ?_|refine ld_flm_11 ‹_› ?_|refine gl_flm_Match ‹_› ‹_› ?_) | (with_reducible first|refine e_call ?_|refine sp_cons ?_|refine sp_nil ?_|refine r_ret ?_|refine call_rule ?_) | (with_reducible refine keep142 B H.F.keep hA1 ?_))
    refine match_ok (B.keeps H.F.keep) hA hd fun x dd h' t' x1 x2 x3 => ?_
    exact y x dd h' t' _ _ _ x1 x2 x3
  have R11 : ∀ t', WP w A (execs (tailN 11) (env_flm L)) (Ret Q) ⟨h, gs, dr, t', os⟩ := by
    intro t'
    refine r_cons (r_while0 (t_and (a_cons ?_)))
    repeat (first | (with_reducible first|refine ld_flm_2 ‹_› ?_|refine ld_flm_9 ‹_› ?_|refine ld_flm_11 ‹_› ?_) | (first|(with_reducible first|refine e_bin ?_|refine t_cmp ?_|refine t_bool ?_)|(with_reducible refine o_add ?_; intro _ _)|with_reducible refine c_lt ?_))
    refine k_dec (fun e1 => a_cons ?_) fun _ => ⟨rfl, R12 _⟩
    have e1 := of_decide_eq_true e1
    repeat (first | (with_reducible first|refine ld_flm_4 ‹_› ?_|refine ld_flm_10 ‹_› ?_|refine ld_flm_11 ‹_› ?_) | (first|(with_reducible first|refine e_bin ?_|refine t_cmp ?_|refine t_bool ?_)|(with_reducible refine o_add ?_; intro _ _)|with_reducible refine c_lt ?_))
    refine k_dec (fun e2 => a_cons ?_) fun _ => ⟨rfl, R12 _⟩
    have e2 := of_decide_eq_true e2
    refine t_other ?_
    repeat (first | (with_reducible refine ld_flm_8 ‹_› ?_) | (with_reducible first|refine e_call ?_|refine sp_cons ?_|refine call_rule ?_))
    refine e_sub ?_
    repeat (first | (with_reducible first|refine ld_flm_6 ‹_› ?_|refine ld_flm_10 ‹_› ?_|refine ld_flm_11 ‹_› ?_) | (first|with_reducible refine e_bin ?_|(with_reducible refine o_add ?_; intro _ _)))
    refine x_strN (bj + bs) (by (first|lia|omega)) (by (first|lia|omega)) (by (first|lia|omega)) fun c1 tv1 t1 hc1 => ?_
    repeat (first | fail | (with_reducible refine sp_nil ?_) | (with_reducible refine keep_bm hq rfl rfl ?_))
    refine call_set_in hq hJh fun t2 => ?_
    refine t_bool ?_
    exact k_false ⟨rfl, R12 _⟩
  have R10 : ∀ t', WP w A (execs (tailN 10) (env_flm L)) (Ret Q) ⟨h, gs, dr, t', os⟩ := by
    intro t'
    refine r_cons (r_while0 (t_and (a_cons ?_)))
    repeat (first | (with_reducible first|refine ld_flm_1 ‹_› ?_|refine ld_flm_9 ‹_› ?_) | (with_reducible first|refine t_cmp ?_|refine t_bool ?_|refine c_gt ?_))
    refine k_dec (fun e1 => a_cons ?_) fun _ => ⟨rfl, R11 _⟩
    have e1 := of_decide_eq_true e1
    repeat (first | (with_reducible first|refine ld_flm_3 ‹_› ?_|refine ld_flm_10 ‹_› ?_) | (with_reducible first|refine t_cmp ?_|refine t_bool ?_|refine c_gt ?_))
    refine k_dec (fun e2 => a_cons ?_) fun _ => ⟨rfl, R11 _⟩
    have e2 := of_decide_eq_true e2
    refine t_other ?_
    repeat (first | (with_reducible refine ld_flm_8 ‹_› ?_) | (with_reducible first|refine e_call ?_|refine sp_cons ?_|refine call_rule ?_))
    refine e_sub ?_
    repeat (first | (with_reducible first|refine ld_flm_6 ‹_› ?_|refine ld_flm_10 ‹_› ?_) | (first|with_reducible refine e_bin ?_|(with_reducible refine e_int ?_; intro _ _)|(with_reducible refine o_sub ?_; intro _ _)))
    refine x_strN (bj - 1) (by (first|lia|omega)) (by (first|lia|omega)) (by (first|lia|omega)) fun c1 tv1 t1 hc1 => ?_
    repeat (first | fail | (with_reducible refine sp_nil ?_) | (with_reducible refine keep_bm hq rfl rfl ?_))
    refine call_set_in hq hJh fun t2 => ?_
    refine t_bool ?_
    exact k_false ⟨rfl, R11 _⟩
  have R9 : ∀ t', WP w A (execs (tailN 9) (env_flm L)) (Ret Q) ⟨h, gs, dr, t', os⟩ := by
    intro t'
    refine r_cons (r_while0 (t_and (a_cons ?_)))
    repeat (first | (with_reducible first|refine ld_flm_2 ‹_› ?_|refine ld_flm_9 ‹_› ?_|refine ld_flm_11 ‹_› ?_) | (first|(with_reducible first|refine e_bin ?_|refine t_cmp ?_|refine t_bool ?_)|(with_reducible refine o_add ?_; intro _ _)|with_reducible refine c_lt ?_))
    refine k_dec (fun e1 => a_cons ?_) fun _ => ⟨rfl, R10 _⟩
    have e1 := of_decide_eq_true e1
    repeat (first | (with_reducible first|refine ld_flm_4 ‹_› ?_|refine ld_flm_10 ‹_› ?_|refine ld_flm_11 ‹_› ?_) | (first|(with_reducible first|refine e_bin ?_|refine t_cmp ?_|refine t_bool ?_)|(with_reducible refine o_add ?_; intro _ _)|with_reducible refine c_lt ?_))
    refine k_dec (fun e2 => a_cons ?_) fun _ => ⟨rfl, R10 _⟩
    have e2 := of_decide_eq_true e2
    refine t_not (t_other ?_)
    repeat (first | (with_reducible refine ld_flm_8 ‹_› ?_) | (with_reducible first|refine e_call ?_|refine sp_cons ?_|refine call_rule ?_))
    refine e_sub ?_
    repeat (first | (with_reducible first|refine ld_flm_6 ‹_› ?_|refine ld_flm_10 ‹_› ?_|refine ld_flm_11 ‹_› ?_) | (first|with_reducible refine e_bin ?_|(with_reducible refine o_add ?_; intro _ _)))
    refine x_strN (bj + bs) (by (first|lia|omega)) (by (first|lia|omega)) (by (first|lia|omega)) fun c1 tv1 t1 hc1 => ?_
    repeat (first | fail | (with_reducible refine sp_nil ?_) | (with_reducible refine keep_bm hq rfl rfl ?_))
    refine call_set_in hq hJh fun t2 => ?_
    refine t_bool ?_
    refine k_true (a_cons ?_)
    repeat (first | fail | (with_reducible refine t_cmp ?_))
    refine e_sub ?_
    repeat (first | (with_reducible first|refine ld_flm_5 ‹_› ?_|refine ld_flm_9 ‹_› ?_|refine ld_flm_11 ‹_› ?_) | (first|with_reducible refine e_bin ?_|(with_reducible refine o_add ?_; intro _ _)))
    refine x_strN (bi + bs) (by (first|lia|omega)) (by (first|lia|omega)) (by (first|lia|omega)) fun c2 tv2 t3 hc2 => ?_
    repeat (first | fail | fail)
    refine e_sub ?_
    repeat (first | (with_reducible first|refine ld_flm_6 ‹_› ?_|refine ld_flm_10 ‹_› ?_|refine ld_flm_11 ‹_› ?_) | (first|with_reducible refine e_bin ?_|(with_reducible refine o_add ?_; intro _ _)))
    refine x_strN (bj + bs) (by (first|lia|omega)) (by (first|lia|omega)) (by (first|lia|omega)) fun c3 tv3 t4 hc3 => ?_
    refine c_eqs ?_
    rw [ne_of_eqc (M.behind (by (first|lia|omega)) (by (first|lia|omega))) hc2 hc3]
    refine t_bool ?_
    exact k_false ⟨rfl, R10 _⟩
  have R8 : ∀ t', WP w A (execs (tailN 8) (env_flm L)) (Ret Q) ⟨h, gs, dr, t', os⟩ := by
    intro t'
    refine r_cons (r_while0 (t_and (a_cons ?_)))
    repeat (first | (with_reducible first|refine ld_flm_1 ‹_› ?_|refine ld_flm_9 ‹_› ?_) | (with_reducible first|refine t_cmp ?_|refine t_bool ?_|refine c_gt ?_))
    refine k_dec (fun e1 => a_cons ?_) fun _ => ⟨rfl, R9 _⟩
    have e1 := of_decide_eq_true e1
    repeat (first | (with_reducible first|refine ld_flm_3 ‹_› ?_|refine ld_flm_10 ‹_› ?_) | (with_reducible first|refine t_cmp ?_|refine t_bool ?_|refine c_gt ?_))
    refine k_dec (fun e2 => a_cons ?_) fun _ => ⟨rfl, R9 _⟩
    have e2 := of_decide_eq_true e2
    refine t_not (t_other ?_)
    repeat (first | (with_reducible refine ld_flm_8 ‹_› ?_) | (with_reducible first|refine e_call ?_|refine sp_cons ?_|refine call_rule ?_))
    refine e_sub ?_
    repeat (first | (with_reducible first|refine ld_flm_6 ‹_› ?_|refine ld_flm_10 ‹_› ?_) | (first|with_reducible refine e_bin ?_|(with_reducible refine e_int ?_; intro _ _)|(with_reducible refine o_sub ?_; intro _ _)))
    refine x_strN (bj - 1) (by (first|lia|omega)) (by (first|lia|omega)) (by (first|lia|omega)) fun c1 tv1 t1 hc1 => ?_
    repeat (first | fail | (with_reducible refine sp_nil ?_) | (with_reducible refine keep_bm hq rfl rfl ?_))
    refine call_set_in hq hJh fun t2 => ?_
    refine t_bool ?_
    refine k_true (a_cons ?_)
    repeat (first | fail | (with_reducible refine t_cmp ?_))
    refine e_sub ?_
    repeat (first | (with_reducible first|refine ld_flm_5 ‹_› ?_|refine ld_flm_9 ‹_› ?_) | (first|with_reducible refine e_bin ?_|(with_reducible refine e_int ?_; intro _ _)|(with_reducible refine o_sub ?_; intro _ _)))
    refine x_strN (bi - 1) (by (first|lia|omega)) (by (first|lia|omega)) (by (first|lia|omega)) fun c2 tv2 t3 hc2 => ?_
    repeat (first | fail | fail)
    refine e_sub ?_
    repeat (first | (with_reducible first|refine ld_flm_6 ‹_› ?_|refine ld_flm_10 ‹_› ?_) | (first|with_reducible refine e_bin ?_|(with_reducible refine e_int ?_; intro _ _)|(with_reducible refine o_sub ?_; intro _ _)))
    refine x_strN (bj - 1) (by (first|lia|omega)) (by (first|lia|omega)) (by (first|lia|omega)) fun c3 tv3 t4 hc3 => ?_
    refine c_eqs ?_
    rw [ne_of_eqc (M.before (by (first|lia|omega)) (by (first|lia|omega))) hc2 hc3]
    refine t_bool ?_
    exact k_false ⟨rfl, R9 _⟩
  exact R8 _
end
section
variable {w : World} {A : Around} {gs : Array GenState} {dr : Drawn} {os : OsState} {h : Heap} {t : Nat} {d u : Nat}
theorem none_back {h h' : Heap} {x : Addr} (k : Ext h h') (e : h'.get? x = none) : h.get? x = none := by
  cases q : h.get? x with
  | none => rfl
  | some o => rw [k _ _ q] at e; cases e
set_option maxHeartbeats 4000000 in
theorem flm_ok {mt dm D J : Addr} {es : List DictEntry} {n : Nat} {a b : Str} {ta tb tk1 tk2 tk3 tk4 : Tok} {js : Array (Int × Value)} {jp : Nat} {jt : SetTable} {alo ahi blo bhi : Nat} {Q : Value → Shared → Prop}
    (B : Bs w h) (hA : AOk A d u) (hd : d + 2 < recursionLimit) (M : Mat h mt dm es n) (ea : look es (Str.ofString "a") = some (.str a ta)) (eb : look es (Str.ofString "b") = some (.str b tb))
    (eD : look es (Str.ofString "b2j") = some (.ref D)) (eJ : look es (Str.ofString "bjunk") = some (.ref J)) (hD : B2J w h D b.cps.toList) (hJ : h.get? J = some (sO js jp jt)) (hJ' : h.SetOf (strKind pw w) J (fun _ => false) 0)
    (ha : a.length ≤ 1000) (hb : b.length ≤ 1000) (h1 : alo ≤ ahi) (h2 : ahi ≤ a.length) (h3 : blo ≤ bhi) (h4 : bhi ≤ b.length)
    (y : ∀ x dd h' t' i j k ti tj tk, Ext h h' → h.get? x = none → h'.get? x = some (mObj dd #[.int (i : Nat) ti, .int (j : Nat) tj, .int (k : Nat) tk]) → LM a.cps.toList b.cps.toList alo ahi blo bhi i j k → Q (.ref x) ⟨h', gs, dr, t', os⟩) :
    WP w A (call (.ref 203) [.ref mt, .int (alo : Nat) tk1, .int (ahi : Nat) tk2, .int (blo : Nat) tk3, .int (bhi : Nat) tk4]) Q ⟨h, gs, dr, t, os⟩ := by
  refine enter (vs := [.ref mt, .int (alo : Nat) tk1, .int (ahi : Nat) tk2, .int (blo : Nat) tk3, .int (bhi : Nat) tk4]) (ns := ns_flm) (news := []) h B (Ext.refl h) (Nat.le_refl _) (by simp) (by simp) hA (by (first|lia|omega)) ok_flm (lk_203 _) (cd_203 _) (binds_203 B.K) (by kernel_rfl!) (by kernel_rfl!) (by kernel_rfl!) ?_
  intro h1' t1 H k1
  change WP w _ (execs (bodyOf (me 8 6)) (env_flm h.objs.size)) _ _
  have hA1 := hA.deeper (envOf (Str.ofString "SequenceMatcher.find_longest_match") (scoOf (me 8 6)) h.objs.size 203 (.ref 202))
  generalize A.deeper _ = A1 at hA1 ⊢
  change Hp h h.objs.size h1' (LV ns_flm [some (.ref mt), some (.int (alo : Nat) tk1), some (.int (ahi : Nat) tk2), some (.int (blo : Nat) tk3), some (.int (bhi : Nat) tk4), none, none, none, none, none, none, none, none, none, none, none, none, none, none]) [] at H
  refine r_cons ?_
  refine r_expr ?_
  (with_reducible refine e_str ?_; intro _ _)
  refine r_cons ?_
  refine r_tup ?_
  repeat (first | (with_reducible refine ld_flm_0 ‹_› ?_) | (first|(with_reducible first|refine sp_cons ?_|refine sp_nil ?_|refine e_tuple ‹_› ?_)|(with_reducible refine n_tuple ‹_› ?_; intro _ _ _ _ _ _)) | (first|(with_reducible first|refine e_attr ?_|refine g_go ?_)|(with_reducible refine mg_a ‹_› ‹_› ‹_› ‹_› rfl ?_; intro _)|(with_reducible refine mg_b ‹_› ‹_› ‹_› ‹_› rfl ?_; intro _)|(with_reducible refine mg_b2j ‹_› ‹_› ‹_› ‹_› rfl ?_; intro _)|(with_reducible refine mg_bjunk ‹_› ‹_› ‹_› ‹_› rfl ?_; intro _)) | (with_reducible refine ga_set_in hA1.hh (by assumption) (H.F.keep _ _ hJ) ?_; intro _ _ _ _))
  rename_i qb _ _ _ _ H1 _ _ _
  refine a_tup [(Str.ofString "a", _), (Str.ofString "b", _), (Str.ofString "b2j", _), (Str.ofString "isbjunk", _)] hA1.hh H1 (by with_unfolding_all rfl) (by with_unfolding_all rfl) (by with_unfolding_all rfl) fun h2' H2 => ?_
  dsimp only [List.map]
  repeat (first | (with_reducible refine stn_cons ?_) | with_reducible refine stn_nil ?_ | ((with_reducible first|refine st_flm_5 ‹_› ?_|refine st_flm_6 ‹_› ?_|refine st_flm_7 ‹_› ?_|refine st_flm_8 ‹_› ?_); intro _ _ _) | (with_reducible first|refine ld_flm_2 ‹_› ?_|refine ld_flm_4 ‹_› ?_) | (with_reducible first|refine t_cmp ?_|refine t_bool ?_|refine e_none ?_|refine r_if ?_|refine r_cons ?_|refine r_nil ?_) | (with_reducible refine is_int_none ?_) | (rw [if_neg (by decide)]))
  refine r_swap [Str.ofString "besti", Str.ofString "bestj", Str.ofString "bestsize"] (by with_unfolding_all rfl) ?_
  repeat (first | (with_reducible first|refine ld_flm_1 ‹_› ?_|refine ld_flm_3 ‹_› ?_) | (first|(with_reducible first|refine sp_cons ?_|refine sp_nil ?_)|(with_reducible refine e_int ?_; intro _ _)|with_reducible refine e_tuple ‹_› ?_|(with_reducible refine n_tuple ‹_› ?_; intro _ _ _ _ _ _)))
  refine k_swap3 hA1.hh (by assumption) fun h3' H3 => ?_
  repeat (first | (with_reducible refine stn_cons ?_) | with_reducible refine stn_nil ?_ | ((with_reducible first|refine st_flm_9 ‹_› ?_|refine st_flm_10 ‹_› ?_|refine st_flm_11 ‹_› ?_); intro _ _ _) | fail | (with_reducible first|refine r_assign ?_|refine r_cons ?_))
  refine e_dictN (by assumption) fun D1 _ o1 hD1 im1 H4 => ?_
  (with_reducible refine st_flm_12 ‹_› ?_); intro _ _ _
  repeat (first | (with_reducible first|refine r_assign ?_|refine r_cons ?_))
  refine e_list0 (by assumption) fun NL _ onl hnl H5 => ?_
  (with_reducible refine st_flm_13 ‹_› ?_); intro _ _ _
  refine r_cons ?_
  refine r_for ?_
  repeat (first | (with_reducible first|refine ld_flm_1 ‹_› ?_|refine ld_flm_2 ‹_› ?_|refine gl_flm_range ‹_› ‹_› ?_) | (with_reducible first|refine e_call ?_|refine sp_cons ?_|refine sp_nil ?_|refine keep_t ?_|refine call_rule ?_) | (with_reducible refine o_range (by assumption) ?_; intro _ _ _ _ _ _ _) | (with_reducible refine it_range (by assumption) (by (first|lia|omega)) (by (first|lia|omega)) (by (first|lia|omega)) (by (first|lia|omega)) ?_; intro _ _ _))
  rename_i it9 h9 H9
  have hD1' : (D1 == sysModules) = false := by rw [hD1]; exact Hp.notMod (h := _) B (by assumption)
  rw [show ((ahi : Int) - (alo : Int)).toNat = ahi - alo by (first|lia|omega)] at H9
  refine outer_ok B hA1 ha hb h2 h4 h3 hD hnl ⟨alo, h9, _, fun _ => none, o1, D1, 0, alo, blo, 0, none, none, none, none, none, _, _, _, rfl, rfl, Nat.le_refl _, h1, H9, im1, Nat.zero_le _, hD1', ?_, Best.start h3⟩ ?_
  · exact fun j _ _ => .inl ⟨rfl, rn_low (.inl (Nat.le_refl _))⟩
  · intro h' t' bi bj bs v12 v13 vi vg vn vj vk ti tj ts news Hx Bx
    have M' := LM.of_best h1 Bx
    exact tail_ok (g := h) B hA1 (by (first|lia|omega)) ha hb h2 h4 Hx hJ' M' fun x dd h2' t2' ti' tj' tk' x1 x2 x3 => y x dd h2' t2' bi bj bs ti' tj' tk' (Ext.trans Hx.F.keep x1) (none_back Hx.F.keep x2) x3 M'
end
section
variable (p : Program) (P : Params) (x n t d : Nat) (a b c : Value)
noncomputable abbrev mF (x d : Nat) (a b c : Value) : List (Option Obj) := [some (mObj d #[a, b, c]), none, none, none]
theorem um1 : run (kfP P) fastT ⟨p, P⟩ 400 none n t (mF x d a b c) Bool (notIterableAtAll (.ref x)) = some ⟨.ok false, t, [], n, [.load x (mObj d #[a, b, c])]⟩ := by kernel_rfl!
theorem um2 : run (kfP P) fastT ⟨p, P⟩ 400 none n t (mF x d a b c) (Option Value) (specialOf (.ref x) "__iter__") = some ⟨.ok (some (.builtin "tuple.__iter__")), t, [], n, [.load x (mObj d #[a, b, c])]⟩ := by kernel_rfl!
theorem um3 : run (kfP P) fastT ⟨p, P⟩ 400 none n t [] (Value × List Value) (bindSpecial (.builtin "tuple.__iter__") (.ref x)) = some ⟨.ok (.builtin "tuple.__iter__", [.ref x]), t, [], n, []⟩ := by kernel_rfl!
theorem um4 : run (kfP P) fastT ⟨p, P⟩ 400 none n t [some (mObj d #[a, b, c]), none] Value (call (.builtin "tuple.__iter__") [.ref x]) = some ⟨.ok (.ref n), t, [], n + 1, [.load x (mObj d #[a, b, c]), .alloc { cls := .type "tuple_iterator", data := .fields #[.ref x, .int 0 0] }]⟩ := by kernel_rfl!
end
section
variable {w : World} {A : Around} {gs : Array GenState} {dr : Drawn} {os : OsState} {g h : Heap} {t : Nat} {a b c : Value} {x dd : Addr}
theorem bsb {name : Str} {f : Value} {Q : Option (Value × List Value) → Shared → Prop} {s : Shared} (h1 : WP w A (specialOf (.ref x) name) (fun r s' => r = some f ∧ s' = s) s)
    (h2 : WP w A (bindSpecial f (.ref x)) (fun r s' => r = (f, [.ref x]) ∧ s' = s) s) (y : Q (some (f, [.ref x])) s) : WP w A (bindSpecialIfBound? (.ref x) name) Q s := by
  unfold bindSpecialIfBound?
  refine wpAny_bind (wpAny_mono h1 (fun r s' e => ?_) fun _ _ e => e)
  obtain ⟨rfl, rfl⟩ := e
  dsimp only
  refine wpAny_bind (wpAny_askSetting ?_)
  have two : WP w A (do return some (← bindSpecial f (.ref x)) : Sem (Option (Value × List Value))) Q s' := wpAny_bind (wpAny_mono h2 (fun r s'' e => by obtain ⟨rfl, rfl⟩ := e; exact wpAny_pure y) fun _ _ e => e)
  split
  · exact two
  · exact wpAny_tryCatch (wpAny_mono two (fun _ _ e => e) fun _ _ e => e.elim)
theorem it_m {Q : Value → Shared → Prop} (B : Bs w g) (k : Ext g h) (hh : A.handled = none) (hx : h.get? x = some (mObj dd #[a, b, c]))
    (y : Q (.ref h.objs.size) ⟨h.push { cls := .type "tuple_iterator", data := .fields #[.ref x, .int 0 0] }, gs, dr, t, os⟩) : WP w A (pyIter (.ref x)) Q ⟨h, gs, dr, t, os⟩ := by
  have gv := given_of B k
  have e2 := um2 pw w.params x h.objs.size t dd a b c
  have e3 := um3 pw w.params x h.objs.size t
  have e4 := um4 pw w.params x h.objs.size t dd a b c
  rw [← table_eq_fast] at e2 e3 e4
  unfold pyIter
  refine wpAny_bind (run_sound (s := ⟨h, gs, dr, t, os⟩) e2 gv hh rfl rfl ⟨hx, ?_⟩)
  dsimp only
  refine wpAny_bind ?_
  unfold callSpecialIfBoundUnlessNone?
  refine wpAny_holding (wpAny_bind (bsb (f := .builtin "tuple.__iter__") (run_sound (s := ⟨h, gs, dr, t, os⟩) e2 gv hh rfl rfl ⟨hx, rfl, rfl⟩) (run_sound (s := ⟨h, gs, dr, t, os⟩) e3 gv hh rfl rfl ⟨rfl, rfl⟩) ?_))
  dsimp only
  rw [if_neg (by decide)]
  refine wpAny_bind (run_sound (s := ⟨h, gs, dr, t, os⟩) e4 gv hh rfl rfl ⟨hx, wpAny_pure ?_⟩)
  dsimp only
  refine wpAny_bind (wpAny_specialOf (T := "tuple_iterator") ⟨_, Heap.get?_push_size _ rfl, rfl⟩ slot_tupleiter_next.lookup ?_)
  exact wpAny_pure y
-- a tuple's iterator over a Match object
theorem nxt_item {it : Addr} {i : Nat} {items : Array Value} {nl : Nat} {ol : Obj} {v : Value} {Q : Option Value → Shared → Prop} {s : Shared} (hit : IsTupIter s.heap it x i) (hol : s.heap.get? x = some ol) (hdl : ol.data = .seq items nl) (hx : items[i]? = some v)
    (y : ∀ h', IsTupIter h' it x (i + 1) → Heap.SameBut it s.heap h' → Q (some v) { s with heap := h' }) : WP w A (pyNext (.ref it)) Q s := by
  obtain ⟨o, ho, hc, hd⟩ := id hit
  unfold pyNext
  refine wpAny_bind (wpAny_attempt (wpAny_callSpecial?_slot (name := Str.ofString "__next__") hit.typeIs slot_tupleiter_next
    (wpAny_call_entry slot_tupleiter_next hit.typeIs entry_tupleiter_next ?_ (args_tupleiter_next _))))
  show wpAny _ _ (field (.ref it) 0 >>= _) _ _ s
  refine wpAny_bind (wpAny_field ho hd (x := .ref x) rfl ?_)
  show wpAny _ _ (if (Value.ref x == Value.none) = true then _ else _) _ _ s
  rw [if_neg (show ¬ ((Value.ref x == Value.none) = true) from Bool.false_ne_true)]
  show wpAny _ _ (field (.ref it) 1 >>= _) _ _ s
  refine wpAny_bind (wpAny_field ho hd (x := .int i 0) rfl ?_)
  show wpAny _ _ (seqItems? (.ref x) >>= _) _ _ s
  refine wpAny_bind (wpAny_seqItems hol hdl ?_)
  simp only [Int.toNat_natCast, hx]
  refine wpAny_bind (wpAny_setField ho hd (by simp) (wpAny_pure ⟨v, rfl, wpAny_pure (y _ ?_ (Heap.SameBut.update ..))⟩))
  exact ⟨_, Heap.get?_update_self _ ho (Obj.isFreed_of_fields (Obj.data_mapFields hd _)), (Obj.cls_mapFields ..).trans hc, by
    rw [Obj.data_mapFields hd]; simp [rawInt]⟩
theorem nxt_end {it : Addr} {i : Nat} {items : Array Value} {nl : Nat} {ol : Obj} {Q : Option Value → Shared → Prop} {s : Shared} (hh : A.handled = none) (hit : IsTupIter s.heap it x i) (hol : s.heap.get? x = some ol) (hdl : ol.data = .seq items nl) (hx : items[i]? = none)
    (y : ∀ h', Heap.ExtBut it s.heap h' → Q none { s with heap := h' }) : WP w A (pyNext (.ref it)) Q s := by
  obtain ⟨o, ho, hc, hd⟩ := id hit
  unfold pyNext
  refine wpAny_bind (wpAny_attempt (wpAny_callSpecial?_slot (name := Str.ofString "__next__") hit.typeIs slot_tupleiter_next
    (wpAny_call_entry slot_tupleiter_next hit.typeIs entry_tupleiter_next ?_ (args_tupleiter_next _))))
  show wpAny _ _ (field (.ref it) 0 >>= _) _ _ s
  refine wpAny_bind (wpAny_field ho hd (x := .ref x) rfl ?_)
  show wpAny _ _ (if (Value.ref x == Value.none) = true then _ else _) _ _ s
  rw [if_neg (show ¬ ((Value.ref x == Value.none) = true) from Bool.false_ne_true)]
  show wpAny _ _ (field (.ref it) 1 >>= _) _ _ s
  refine wpAny_bind (wpAny_field ho hd (x := .int i 0) rfl ?_)
  show wpAny _ _ (seqItems? (.ref x) >>= _) _ _ s
  refine wpAny_bind (wpAny_seqItems hol hdl ?_)
  simp only [Int.toNat_natCast, hx]
  refine wpAny_bind (wpAny_rule (wpAny_bind (wpAny_setField ho hd (by simp) ?_)))
  show wpAny _ _ (newExc (.type "StopIteration") [] >>= _) _ _ _
  refine wpAny_bind ?_
  simp only [newExc, newTuple]
  refine wpAny_bind (wpAny_newObj_type ?_ (by size_fits))
  refine wpAny_bind (m := firstArgMember _ _) (wpAny_of_eq (a := Value.none) (by first | rfl | (simp only [firstArgMember]; rfl)) ?_)
  refine wpAny_newObj_type ?_ (by size_fits)
  simp only [raiseNew]
  refine wpAny_bind (wpAny_handled ?_)
  first | rw [show A.in1.handled = none from hh] | rw [hh]
  refine wpAny_bind (wpAny_pure (wpAny_throw ?_))
  refine wpAny_bind (wpAny_isInstance (T := "StopIteration") (b := true) ⟨_, Heap.get?_push_size _ rfl, rfl⟩ isSubtype_stop ?_)
  exact wpAny_pure (y _ (((Heap.SameBut.update ..).extBut.push _).push _))
-- a Match object's three items
theorem unpack_m {Q : List Value → Shared → Prop} (B : Bs w g) (k : Ext g h) (hh : A.handled = none) (hx : h.get? x = some (mObj dd #[a, b, c]))
    (y : ∀ h', Ext h h' → Q [a, b, c] ⟨h', gs, dr, t, os⟩) : WP w A (unpackItems (.ref x) 3 none) Q ⟨h, gs, dr, t, os⟩ := by
  have e1 := um1 pw w.params x h.objs.size t dd a b c
  rw [← table_eq_fast] at e1
  have hlt : x ≠ h.objs.size := Nat.ne_of_lt (Heap.lt_size hx)
  have sb : ∀ {h1 h2 : Heap}, Heap.SameBut h.objs.size h1 h2 → h1.get? x = some (mObj dd #[a, b, c]) → h2.get? x = some (mObj dd #[a, b, c]) := fun hs e => (hs.2 x hlt).trans e
  unfold unpackItems
  refine wpAny_bind (run_sound (s := ⟨h, gs, dr, t, os⟩) e1 (given_of B k) hh rfl rfl ⟨hx, ?_⟩)
  simp only [Bool.false_eq_true, if_false]
  refine wpAny_bind (wpAny_holding (it_m B k hh hx ?_))
  have x0 : (h.push { cls := .type "tuple_iterator", data := .fields #[.ref x, .int 0 0] }).get? x = some (mObj dd #[a, b, c]) := Heap.get?_push_of_some _ hx
  have i0 : IsTupIter (h.push { cls := .type "tuple_iterator", data := .fields #[.ref x, .int 0 0] }) h.objs.size x 0 := ⟨_, Heap.get?_push_size _ rfl, rfl, rfl⟩
  refine wpAny_bind (wpAny_holding ?_)
  show wpAny _ _ (pyNext (.ref h.objs.size) >>= _) _ _ _
  refine wpAny_bind (nxt_item (v := a) i0 x0 rfl rfl fun h1 i1 s1 => ?_)
  refine wpAny_bind (wpAny_holding ?_)
  show wpAny _ _ (pyNext (.ref h.objs.size) >>= _) _ _ _
  refine wpAny_bind (nxt_item (v := b) i1 (sb s1 x0) rfl rfl fun h2 i2 s2 => ?_)
  refine wpAny_bind (wpAny_holding ?_)
  show wpAny _ _ (pyNext (.ref h.objs.size) >>= _) _ _ _
  refine wpAny_bind (nxt_item (v := c) i2 (sb s2 (sb s1 x0)) rfl rfl fun h3 i3 s3 => ?_)
  refine wpAny_bind (wpAny_holding (wpAny_pure (wpAny_pure (wpAny_pure (wpAny_pure ?_)))))
  simp only [List.length_cons, List.length_nil, Nat.lt_irrefl, if_false]
  refine wpAny_bind (wpAny_holding (nxt_end hh i3 (sb s3 (sb s2 (sb s1 x0))) rfl rfl fun h4 e4 => ?_))
  simp only [Option.isSome_none, Bool.false_eq_true, if_false]
  refine wpAny_pure (y h4 fun b' o e => ?_)
  have hb : b' ≠ h.objs.size := Nat.ne_of_lt (Heap.lt_size e)
  exact e4 b' o hb ((s3.2 b' hb).trans ((s2.2 b' hb).trans ((s1.2 b' hb).trans (Heap.get?_push_of_some _ e))))
end
theorem LV_none : ∀ {ns : List String} {vs : List (Option Value)} {n : String}, n ∉ ns → LV ns vs (Str.ofString n) = none
  | [], _, _, _ => rfl
  | _ :: _, [], _, _ => rfl
  | m :: ns, v :: vs, n, h => by
    show (if Str.ofString n = Str.ofString m then v else LV ns vs (Str.ofString n)) = none
    rw [if_neg (by rw [sinj]; exact fun e => h (e ▸ .head _))]
    exact LV_none fun z => h (.tail _ z)
-- the matcher's attributes
noncomputable def ns_att : List String := ["isjunk", "a", "b", "autojunk", "matching_blocks", "opcodes", "fullbcount", "b2j", "bjunk", "bpopular"]
theorem nd_att : ns_att.Nodup := by decide
structure Att (es : List DictEntry) (vs : List (Option Value)) (c : Nat) : Prop where
  s : ∀ e ∈ es, e.refKey = false
  l : ∀ y, look es y = LV ns_att vs y
  n : es.length ≤ c
  len : ns_att.length = vs.length
theorem Att.get {es : List DictEntry} {vs : List (Option Value)} {c : Nat} (a : Att es vs c) (k : Nat) {name : String} {v : Option Value} (h1 : ns_att[k]? = some name) (h2 : vs[k]? = some v) : look es (Str.ofString name) = v :=
  (a.l _).trans (LV_get k nd_att h1 h2)
theorem isStr_inj {v : Value} {x y : Str} (h1 : v.isStr x = true) (h2 : v.isStr y = true) : x = y := by
  cases v <;> simp [Value.isStr] at h1 h2
  exact h1.symm.trans h2
theorem look_put {name : Str} {hsh : Int} {tk : Tok} {v : Value} (y : Str) : ∀ es : List DictEntry, look (putL name hsh (.str name tk) v es) y = if y = name then some v else look es y
  | [] => by
    unfold putL look
    by_cases q : y = name
    · subst q; simp [Value.isStr]
    · have : ¬ name = y := fun e => q e.symm
      simp [Value.isStr, q, this]
  | e :: r => by
    have ih := look_put (hsh := hsh) (tk := tk) (v := v) (name := name) y r
    unfold putL
    cases hn : e.key.isStr name with
    | true =>
      simp only [if_true]
      unfold look
      simp only [List.find?_cons]
      by_cases q : y = name
      · subst q; simp [hn]
      · have : e.key.isStr y = false := by
          cases hy : e.key.isStr y with
          | false => rfl
          | true =>
            exact absurd (isStr_inj hy hn) q
        simp [this, q]
    | false =>
      simp only [Bool.false_eq_true, if_false]
      unfold look at ih ⊢
      simp only [List.find?_cons]
      by_cases q : e.key.isStr y = true
      · have : y ≠ name := by rintro rfl; rw [hn] at q; cases q
        simp [q, this]
      · have q' : e.key.isStr y = false := by simpa using q
        simp only [q']
        exact ih
theorem put_len {name : Str} {hsh : Int} {k v : Value} : ∀ es : List DictEntry, (putL name hsh k v es).length ≤ es.length + 1
  | [] => by simp [putL]
  | e :: r => by
    unfold putL
    split
    · simp
    · have := put_len (name := name) (hsh := hsh) (k := k) (v := v) r
      simp only [List.length_cons]; (first|lia|omega)
theorem put_ref {name : Str} {hsh : Int} {tk : Tok} {v : Value} : ∀ es : List DictEntry, (∀ e ∈ es, e.refKey = false) → ∀ e ∈ putL name hsh (.str name tk) v es, e.refKey = false
  | [], _, e, he => by simp [putL] at he; subst he; rfl
  | x :: r, h, e, he => by
    unfold putL at he
    split at he
    · rcases List.mem_cons.mp he with rfl | he
      · exact h x (.head _)
      · exact h e (.tail _ he)
    · rcases List.mem_cons.mp he with rfl | he
      · exact h _ (.head _)
      · exact put_ref r (fun e he => h e (.tail _ he)) e he
theorem Att.put {es : List DictEntry} {vs : List (Option Value)} {c k : Nat} {name : String} {hsh : Int} {tk : Tok} {v : Value} (a : Att es vs c) (h1 : ns_att[k]? = some name) : Att (putL (Str.ofString name) hsh (.str (Str.ofString name) tk) v es) (vs.set k (some v)) (c + 1) := by
  refine ⟨put_ref es a.s, fun y => ?_, Nat.le_trans (put_len es) (Nat.succ_le_succ a.n), by rw [List.length_set]; exact a.len⟩
  rw [look_put, a.l, ← LV_set k nd_att a.len h1]
theorem upd_at {d : Addr} {o o' : Obj} : ∀ {news : List (Addr × Obj)} {i : Nat}, (news.map (·.1)).Nodup → news[i]? = some (d, o) → Upd d o o' news (news.set i (d, o'))
  | [], i, _, e => by simp at e
  | p :: r, 0, nd, e => by
    simp at e; subst e
    exact .head fun q hq z => (List.nodup_cons.mp nd).1 (List.mem_map.mpr ⟨q, hq, z⟩)
  | p :: r, i + 1, nd, e => by
    simp at e
    exact .tail (fun z => (List.nodup_cons.mp nd).1 (List.mem_map.mpr ⟨_, List.mem_of_getElem? e, z.symm⟩)) (upd_at (List.nodup_cons.mp nd).2 e)
theorem sm_set (P : Params) : findIn (KF P) (.ref 249) "__setattr__" = some (some (.builtin "object.__setattr__")) := by kernel_rfl!
theorem sm_over (P : Params) : plainOver (KF P) 249 = true := by kernel_rfl!
theorem sm_taker (P : Params) : (ns_att.all fun n => match takerIn (KF P) 249 (Str.ofString n) with | some none => true | _ => false) = true := by kernel_rfl!
section
variable {w : World} {A : Around} {gs : Array GenState} {dr : Drawn} {os : OsState} {g h : Heap} {L : Addr} {t : Nat} {m : Str → Option Value} {news : List (Addr × Obj)} {pos : Pos} {env : Env} {mt dm : Addr} {es : List DictEntry} {n c : Nat} {vs : List (Option Value)} {v : Value} {s : Shared}
theorem m_set {Q : Unit → Shared → Prop} {name : String} (i k : Nat) (B : Bs w g) (H : Hp g L h m news) (ho : h.get? mt = some (instObj 249 dm)) (e : news[i]? = some (dm, dictOf es n)) (a : Att es vs c) (h1 : ns_att[k]? = some name) (hc : c ≤ 900)
    (y : ∀ h' t' es' n', Att es' (vs.set k (some v)) (c + 1) → Hp g L h' m (news.set i (dm, dictOf es' n')) → Q () ⟨h', gs, dr, t', os⟩) : WP w A (setAttr (.ref mt) (Str.ofString name) v) Q ⟨h, gs, dr, t, os⟩ := by
  have tk : takerIn (KF w.params) 249 (Str.ofString name) = some none := by
    have := List.all_eq_true.mp (sm_taker w.params) name (List.mem_of_getElem? h1)
    split at this
    · assumption
    · cases this
  have I : InstAt h mt (instObj 249 dm) 249 (some (dictOf es n)) := ⟨ho, rfl, rfl, H.at i e⟩
  refine set_dict (s := ⟨h, gs, dr, t, os⟩) H.F B.K H.N I rfl (sm_set _) (sm_over _) tk (sm_dict _) (by rw [getL_look a.s]; rfl) rfl (upd_at H.nd e) ?_ fun h' F N => ?_
  · exact Nat.le_trans (put_len es) (by have := a.n; (first|lia|omega))
  · exact y h' _ _ _ (a.put h1) ⟨F, N, by rw [set_fst news i e]; exact H.nd⟩
theorem m_getA {Q : Value → Shared → Prop} {name : String} (i k : Nat) (B : Bs w g) (H : Hp g L h m news) (ho : h.get? mt = some (instObj 249 dm)) (e : news[i]? = some (dm, dictOf es n)) (a : Att es vs c) (h1 : ns_att[k]? = some name) (h2 : vs[k]? = some (some v))
    (fi : findIn (KF w.params) (.ref 249) (Str.ofString name) = some none) (hv : handedIn v = true) (y : ∀ t', Q v ⟨h, gs, dr, t', os⟩) : WP w A (getAttr (.ref mt) (Str.ofString name) true) Q ⟨h, gs, dr, t, os⟩ :=
  m_get B H ⟨ho, H.at i e, a.s⟩ fi (a.get k h1 h2) hv y
theorem a_attr {o : Expr} {attr : Str} {Q : Unit → Shared → Prop} (y : WP w A (eval o env) (fun ov s₂ => WP w A (setAttr ov attr v) Q s₂) s) : WP w A (assign (.Attribute o attr pos) env v) Q s := by
  intro Γ p hΓ
  simp only [assign_Attribute, Sem.wp_bind', Sem.wp_holding, Sem.wp_cmd_standAt, Sem.wp_release, Sem.wp_pure']
  exact Sem.wp_mono _ Γ _ (fun ov p₁ s₁ h₁ => h₁ Γ _ hΓ) (fun _ _ _ h' => h') _ _ (y Γ _ hΓ)
theorem r_attr {o value : Expr} {attr : Str} {pos' : Pos} {P : Shared → Prop} {Q : Flow → Shared → Prop} (y : WP w A (eval value env) (fun v s₁ => WP w A (assign (.Attribute o attr pos') env v) (fun _ s₂ => P s₂) s₁) s)
    (hs : swapsWith value (some (.Attribute o attr pos')) pos.line env = pure false := by with_unfolding_all rfl) : WP w A (exec (.Assign [.Attribute o attr pos'] value pos) env) (Seq P Q) s := by
  rw [plainObj_exec_Assign_Attribute o attr pos' value pos hs]
  exact wpAny_bind (wpAny_standAt (wpAny_bind (wpAny_mono y (fun v s₁ y => wpAny_bind (wpAny_mono y (fun _ _ y => wpAny_pure y) fun _ _ e => e)) fun _ _ e => e)))
-- lists
theorem lo_isList {l : Addr} {items : Array Value} {k : Nat} (e : h.get? l = some (lObj items k)) : h.IsList l items := ⟨_, e, rfl, k, rfl⟩
theorem e_list {elts : List Expr} {Q : Value → Shared → Prop} (x : WP w A (spliced (backTo pos (starEach elts env))) (fun vs s₁ => WP w A (newList vs) Q s₁) s) : WP w A (eval (.List elts pos) env) Q s := List_ x
theorem n_list {vs : List Value} {Q : Value → Shared → Prop} (H : Hp g L h m news) (y : ∀ a h', a = h.objs.size → Hp g L h' m ((a, lObj vs.toArray 0) :: news) → Q (.ref a) ⟨h', gs, dr, t, os⟩) (hsz : vs.length ≤ sizeLine := by apply Nat.le_of_ble_eq_true; with_unfolding_all rfl) :
    WP w A (newList vs) Q ⟨h, gs, dr, t, os⟩ := wpAny_newObj_type (y _ _ rfl (H.push _)) (by show vs.toArray.size ≤ sizeLine; rw [List.size_toArray]; exact hsz)
theorem m_meth {l : Addr} {items : Array Value} {k : Nat} {name : Str} {id : String} {pl : Sem Bool} {Q : Value × List Value → Shared → Prop} (e : h.get? l = some (lObj items k)) (slot : Slot "list" name id) (hty : typeOf (.builtin id) = pure (.type "method_descriptor")) (y : Q (.builtin id, [.ref l]) ⟨h, gs, dr, t, os⟩) :
    WP w A (getMethod (.ref l) name pl) Q ⟨h, gs, dr, t, os⟩ :=
  getMethod_builtin (T := "list") ⟨_, e, rfl⟩ F.plainAttrs_list slot hty (fun a ea => by cases ea; exact ⟨_, e, rfl⟩) y
theorem m_append {l : Addr} {items : Array Value} {k : Nat} {pl : Sem Bool} {Q : Value × List Value → Shared → Prop} (e : h.get? l = some (lObj items k)) (y : Q (.builtin "list.append", [.ref l]) ⟨h, gs, dr, t, os⟩) : WP w A (getMethod (.ref l) (Str.ofString "append") pl) Q ⟨h, gs, dr, t, os⟩ := m_meth e F.slot_list_append F.type_list_append y
theorem m_pop {l : Addr} {items : Array Value} {k : Nat} {pl : Sem Bool} {Q : Value × List Value → Shared → Prop} (e : h.get? l = some (lObj items k)) (y : Q (.builtin "list.pop", [.ref l]) ⟨h, gs, dr, t, os⟩) : WP w A (getMethod (.ref l) (Str.ofString "pop") pl) Q ⟨h, gs, dr, t, os⟩ := m_meth e F.slot_list_pop F.type_list_pop y
noncomputable def AppK (l : Addr) (v : Value) (Q : Value → Shared → Prop) (s : Shared) : Prop := ∃ items n, items.size ≤ sizeLine ∧ PySem.IsL s.heap l items n ∧ Q .none { s with heap := s.heap.update l (Obj.mapSeq fun xs => xs.push v) }
theorem cw_append {l : Addr} {e : Expr} {Q : Value → Shared → Prop} (y : WP w A (eval e env) (fun v s₁ => AppK l v Q s₁) s) (he : backTo pos (starEach [e] env) = [(false, eval e env)] := by with_unfolding_all rfl) :
    WP w A (callWith pos (.builtin "list.append") [.ref l] (backTo pos (starEach [e] env)) []) Q s := by
  rw [he]; exact P.append_list y
theorem lo_push {items : Array Value} {k : Nat} {v : Value} : Obj.mapSeq (fun xs => xs.push v) (lObj items k) = lObj (items.push v) (k + 1) := by simp [Obj.mapSeq]
theorem k_append {l : Addr} {items : Array Value} {k : Nat} {Q : Value → Shared → Prop} (i : Nat) (H : Hp g L h m news) (e : news[i]? = some (l, lObj items k)) (hsz : items.size ≤ 1000) (y : ∀ h', Hp g L h' m (news.set i (l, lObj (items.push v) (k + 1))) → Q .none ⟨h', gs, dr, t, os⟩) : AppK l v Q ⟨h, gs, dr, t, os⟩ := by
  refine ⟨items, k, by rw [sizeLine_eq]; (first|lia|omega), H.at i e, y _ ?_⟩
  have := H.upd i e (Obj.mapSeq fun xs => xs.push v)
  rwa [lo_push] at this
theorem cw_pop {v : Value} {l : Addr} {items : Array Value} {k : Nat} {Q : Value → Shared → Prop} (i : Nat) (H : Hp g L h m news) (e : news[i]? = some (l, lObj (items.push v) k)) (hsz : items.size ≤ 1000) (y : ∀ h' k', Hp g L h' m (news.set i (l, lObj items k')) → Q v ⟨h', gs, dr, t, os⟩) (he : backTo pos (starEach [] env) = [] := by with_unfolding_all rfl) :
    WP w A (callWith pos (.builtin "list.pop") [.ref l] (backTo pos (starEach [] env)) []) Q ⟨h, gs, dr, t, os⟩ := by
  rw [he]
  refine P.pop_list (n := k) (s := ⟨h, gs, dr, t, os⟩) (H.at i e) (y := v) (by simp) ?_ (by rw [sizeLine_eq, Array.size_push]; (first|lia|omega))
  have := H.upd i e (Obj.mapSeq fun xs => xs.eraseIdxIfInBounds ((items.push v).size - 1))
  have e3 : (items.push v).eraseIdxIfInBounds items.size = items := by
    rw [Array.eraseIdxIfInBounds, dif_pos (by simp)]
    apply Array.ext'
    rw [Array.toList_eraseIdx, Array.toList_push, List.eraseIdx_append_of_length_le (by simp)]
    simp
  have e2 : Obj.mapSeq (fun xs => xs.eraseIdxIfInBounds ((items.push v).size - 1)) (lObj (items.push v) k) = lObj items (k + 1) := by simp [Obj.mapSeq, e3]
  rw [e2] at this
  exact y _ _ this
theorem t_list {l : Addr} {items : Array Value} {k : Nat} {Q : Bool → Shared → Prop} (e : h.get? l = some (lObj items k)) (hsz : items.size ≤ 1000) (y : ∀ t', Q (!items.isEmpty) ⟨h, gs, dr, t', os⟩) : WP w A (truthy (.ref l)) Q ⟨h, gs, dr, t, os⟩ :=
  wpAny_truthy_list (lo_isList e) (by (first|lia|omega)) (y _)
theorem a_tupM {elts : List Expr} {k : Nat} {x dd : Addr} {a b c : Value} {Q : Unit → Shared → Prop} (xs : List (Str × Pos)) (B : Bs w g) (hh : A.handled = none) (H : Hp g L h m news) (hx : h.get? x = some (mObj dd #[a, b, c]))
    (he : (assignEach elts env).map (·.2) = xs.map fun x => assign (.Name x.1 x.2) env) (hn : (assignEach elts env).length = 3) (hs : (assignEach elts env).findIdx? (·.1) = none)
    (y : ∀ h', Ext h h' → Hp g L h' m news → StN w A env (Q ()) (xs.map (·.1)) [a, b, c] ⟨h', gs, dr, t, os⟩) : WP w A (assign (.Tuple elts k pos) env (.ref x)) Q ⟨h, gs, dr, t, os⟩ := by
  rw [assign_Tuple]
  refine wpAny_bind (wpAny_standAt ?_)
  unfold unpack
  rw [hn, hs]
  refine wpAny_bind (wpAny_holding (unpack_m B H.F.keep hh hx fun h' k => ?_))
  rw [he]
  exact in_orderA (y h' k (H.ext k))
end
theorem lk_210 (P : Params) : (KF P).lookup 210 = some (o210 P) := by kernel_rfl!
theorem cd_210 (P : Params) : codeIn (KF P) (.ref 209) (Str.ofString "SequenceMatcher.get_matching_blocks") = true := by kernel_rfl!
theorem fm_gmb (P : Params) : findIn (KF P) (.ref 249) (Str.ofString "get_matching_blocks") = some (some (.ref 210)) := by kernel_rfl!
theorem fn_gmb (P : Params) : isFn (KF P) (.ref 210) = true := by kernel_rfl!
noncomputable abbrev Sp := Nat × Nat × Nat × Nat
noncomputable abbrev Bk := Nat × Nat × Nat
noncomputable def nextQ (alo ahi blo bhi i j k : Nat) : Option Sp := if alo < i ∧ blo < j then some (alo, i, blo, j) else if i + k < ahi ∧ j + k < bhi then some (i + k, ahi, j + k, bhi) else none
-- the queue's run: never more than one stretch in it
inductive Runs (a b : List Nat) : Option Sp → List Bk → List Bk → Nat → Prop
  | done (mb : List Bk) : Runs a b none mb mb 0
  | miss {alo ahi blo bhi i j : Nat} (mb : List Bk) : LM a b alo ahi blo bhi i j 0 → Runs a b (some (alo, ahi, blo, bhi)) mb mb 1
  | hit {alo ahi blo bhi i j k n : Nat} {mb res : List Bk} : LM a b alo ahi blo bhi i j k → 0 < k → ¬ ((alo < i ∧ blo < j) ∧ (i + k < ahi ∧ j + k < bhi)) → mb.length < 100 → Runs a b (nextQ alo ahi blo bhi i j k) (mb ++ [(i, j, k)]) res n → Runs a b (some (alo, ahi, blo, bhi)) mb res (n + 1)
noncomputable abbrev tObj (vs : List Value) : Obj := { cls := .type "tuple", data := .seq vs.toArray }
-- a Match object
noncomputable def IsMo (o : Obj) (b : Bk) : Prop := ∃ dd ti tj tk, o = mObj dd #[.int (b.1 : Nat) ti, .int (b.2.1 : Nat) tj, .int (b.2.2 : Nat) tk]
noncomputable def IsT4 (o : Obj) (q : Sp) : Prop := ∃ t1 t2 t3 t4, o = tObj [.int (q.1 : Nat) t1, .int (q.2.1 : Nat) t2, .int (q.2.2.1 : Nat) t3, .int (q.2.2.2 : Nat) t4]
-- the list's items are the held objects
inductive Mos (rest : List (Addr × Obj)) : List Value → List Bk → Prop
  | nil : Mos rest [] []
  | cons {x : Addr} {o : Obj} {b : Bk} {vs : List Value} {bs : List Bk} : (x, o) ∈ rest → IsMo o b → Mos rest vs bs → Mos rest (.ref x :: vs) (b :: bs)
theorem Mos.mono {r r' : List (Addr × Obj)} {vs : List Value} {bs : List Bk} (h : ∀ p ∈ r, p ∈ r') (m : Mos r vs bs) : Mos r' vs bs := by
  induction m with
  | nil => exact .nil
  | cons a b _ ih => exact .cons (h _ a) b ih
theorem Mos.snoc {r : List (Addr × Obj)} {vs : List Value} {bs : List Bk} {x : Addr} {o : Obj} {b : Bk} (m : Mos r vs bs) (hx : (x, o) ∈ r) (hb : IsMo o b) : Mos r (vs ++ [.ref x]) (bs ++ [b]) := by
  induction m with
  | nil => exact .cons hx hb .nil
  | cons a b _ ih => exact .cons a b ih
theorem Mos.length {r : List (Addr × Obj)} {vs : List Value} {bs : List Bk} (m : Mos r vs bs) : vs.length = bs.length := by
  induction m with
  | nil => rfl
  | cons a b _ ih => simp [ih]
theorem Hp.mem {g h : Heap} {L x : Addr} {o : Obj} {m : Str → Option Value} {news : List (Addr × Obj)} (H : Hp g L h m news) (e : (x, o) ∈ news) : h.get? x = some o := (H.N _ e).1
theorem in3 {α : Type} {p a b c : α} {rest : List α} (h : p ∈ rest) : p ∈ a :: b :: c :: rest := .tail _ (.tail _ (.tail _ h))
theorem Runs.first {a b : List Nat} {alo ahi blo bhi n : Nat} {mb res : List Bk} (R : Runs a b (some (alo, ahi, blo, bhi)) mb res n) : ∃ i j k, LM a b alo ahi blo bhi i j k ∧ ((k = 0 ∧ res = mb ∧ n = 1) ∨
    (0 < k ∧ ¬ ((alo < i ∧ blo < j) ∧ (i + k < ahi ∧ j + k < bhi)) ∧ mb.length < 100 ∧ ∃ n', n = n' + 1 ∧ Runs a b (nextQ alo ahi blo bhi i j k) (mb ++ [(i, j, k)]) res n')) := by
  cases R with
  | miss _ M => exact ⟨_, _, 0, M, .inl ⟨rfl, rfl, rfl⟩⟩
  | hit M hk one hl r => exact ⟨_, _, _, M, .inr ⟨hk, one, hl, _, rfl, r⟩⟩
theorem Hp.sink3 {g h : Heap} {L : Addr} {m : Str → Option Value} {p a b c : Addr × Obj} {rest : List (Addr × Obj)} (H : Hp g L h m (p :: a :: b :: c :: rest)) : Hp g L h m (a :: b :: c :: p :: rest) :=
  H.perm (by
    have := List.perm_middle (a := p) (l₁ := [a, b, c]) (l₂ := rest)
    exact this.symm)
section
variable {w : World} {A : Around} {gs : Array GenState} {dr : Drawn} {os : OsState} {g h : Heap} {L : Addr} {t : Nat} {d u : Nat} {m : Str → Option Value} {news : List (Addr × Obj)} {env : Env} {pos : Pos}
theorem t_and2 {x y : Expr} {p q : Bool} {whole : Sem Value} {Q : Bool → Shared → Prop} (h1 : ∀ Q', (∀ t', Q' p ⟨h, gs, dr, t', os⟩) → WP w A (isTrue x env (eval x env)) Q' ⟨h, gs, dr, t, os⟩)
    (h2 : ∀ t Q', (∀ t', Q' q ⟨h, gs, dr, t', os⟩) → WP w A (isTrue y env (eval y env)) Q' ⟨h, gs, dr, t, os⟩) (z : ∀ t', Q (p && q) ⟨h, gs, dr, t', os⟩) : WP w A (isTrue (.BoolOp .And [x, y] pos) env whole) Q ⟨h, gs, dr, t, os⟩ := by
  refine t_and (a_cons (h1 _ fun t' => ?_))
  cases p with
  | false => exact k_false (z t')
  | true => exact k_true (a_cons (h2 _ _ fun t'' => by cases q with
      | false => exact k_false (z t'')
      | true => exact k_true (a_nil (z t''))))
theorem a_tupK {elts : List Expr} {k : Nat} {a : Addr} {vs : List Value} {Q : Unit → Shared → Prop} (xs : List (Str × Pos)) (hh : A.handled = none) (H : Hp g L h m news) (ht : h.get? a = some (tObj vs))
    (he : (assignEach elts env).map (·.2) = xs.map fun x => assign (.Name x.1 x.2) env) (hn : (assignEach elts env).length = vs.length) (hs : (assignEach elts env).findIdx? (·.1) = none)
    (y : ∀ h', Ext h h' → Hp g L h' m news → StN w A env (Q ()) (xs.map (·.1)) vs ⟨h', gs, dr, t, os⟩) : WP w A (assign (.Tuple elts k pos) env (.ref a)) Q ⟨h, gs, dr, t, os⟩ := by
  refine assign_Tuple_tuple hh (items := vs.toArray) ⟨_, ht, rfl, _, rfl⟩ (by simpa using hn) hs fun h' k => ?_
  rw [he]
  have k' : Ext h h' := fun b o e => k b o (Nat.ne_of_lt (Heap.lt_size e)) e
  exact in_orderA (by simpa using y h' k' (H.ext k'))
theorem m_flm {mt dm : Addr} {es : List DictEntry} {n : Nat} {pl : Sem Bool} {Q : Value × List Value → Shared → Prop} (B : Bs w g) (H : Hp g L h m news) (M : Mat h mt dm es n) (hl : look es (Str.ofString "find_longest_match") = none) (y : Q (.ref 203, [.ref mt]) ⟨h, gs, dr, t, os⟩) :
    WP w A (getMethod (.ref mt) (Str.ofString "find_longest_match") pl) Q ⟨h, gs, dr, t, os⟩ :=
  method_inst (s := ⟨h, gs, dr, t, os⟩) H.F B.K M.inst (sm_plain _ _) (fm_flm _) (fn_flm _) (by rw [getL_look M.s, hl]) y
theorem B2J.mono {h h' : Heap} {D : Addr} {b : List Nat} (k : Ext h h') (x : B2J w h D b) : B2J w h' D b := by
  obtain ⟨fD, ⟨o, es, ep, e, r⟩, hs, hp⟩ := x
  refine ⟨fD, ⟨o, es, ep, k _ _ e, r⟩, hs, fun c => ?_⟩
  rcases hp c with ⟨l, vs, e1, ⟨o, e, r⟩, e3⟩ | e
  · exact .inl ⟨l, vs, e1, ⟨o, k _ _ e, r⟩, e3⟩
  · exact .inr e
noncomputable def whileB : List Stmt := loopB (nthS (bodyOf (me 8 7)) 5)
noncomputable def whileT : Expr := match nthS (bodyOf (me 8 7)) 5 with | .While t .. => t | _ => .Constant .none 0 default
noncomputable def QI (w : World) (gs : Array GenState) (dr : Drawn) (os : OsState) (g : Heap) (L : Addr) (a b : Str) (mt dm QL MB : Addr) (es : List DictEntry) (nd : Nat) (tla tlb : Tok) (res : List Bk) (n : Nat) (s : Shared) : Prop :=
  ∃ (h : Heap) (t : Nat) (q : Option Sp) (mb : List Bk) (qs ms : List Value) (kq km : Nat) (rest : List (Addr × Obj)) (v5 v6 v7 v8 v9 v10 v11 v12 : Option Value), s = ⟨h, gs, dr, t, os⟩ ∧
    Hp g L h (LV ns_gmb [some (.ref mt), some (.int (a.length : Nat) tla), some (.int (b.length : Nat) tlb), some (.ref QL), some (.ref MB), v5, v6, v7, v8, v9, v10, v11, v12, none, none, none, none, none, none, none])
      ((QL, lObj qs.toArray kq) :: (MB, lObj ms.toArray km) :: (dm, dictOf es nd) :: rest) ∧
    Runs a.cps.toList b.cps.toList q mb res n ∧ Mos rest ms mb ∧ mb.length ≤ 100 ∧
    match q with
    | none => qs = []
    | some x => (∃ qa o, qs = [.ref qa] ∧ (qa, o) ∈ rest ∧ IsT4 o x) ∧ x.1 ≤ x.2.1 ∧ x.2.1 ≤ a.length ∧ x.2.2.1 ≤ x.2.2.2 ∧ x.2.2.2 ≤ b.length
theorem QI.mk {gs : Array GenState} {dr : Drawn} {os : OsState} {g : Heap} {L : Addr} {a b : Str} {mt dm QL MB : Addr} {es : List DictEntry} {nd : Nat} {tla tlb : Tok} {res : List Bk} {n : Nat} {h : Heap} {t : Nat} {mb : List Bk} {qs ms : List Value} {kq km : Nat} {rest : List (Addr × Obj)} {v5 v6 v7 v8 v9 v10 v11 v12 : Option Value} (q : Option Sp)
    (H : Hp g L h (LV ns_gmb [some (.ref mt), some (.int (a.length : Nat) tla), some (.int (b.length : Nat) tlb), some (.ref QL), some (.ref MB), v5, v6, v7, v8, v9, v10, v11, v12, none, none, none, none, none, none, none])
      ((QL, lObj qs.toArray kq) :: (MB, lObj ms.toArray km) :: (dm, dictOf es nd) :: rest))
    (R : Runs a.cps.toList b.cps.toList q mb res n) (m : Mos rest ms mb) (l : mb.length ≤ 100)
    (y : match (generalizing := false) q with
      | none => qs = []
      | some x => (∃ qa o, qs = [.ref qa] ∧ (qa, o) ∈ rest ∧ IsT4 o x) ∧ x.1 ≤ x.2.1 ∧ x.2.1 ≤ a.length ∧ x.2.2.1 ≤ x.2.2.2 ∧ x.2.2.2 ≤ b.length) : QI w gs dr os g L a b mt dm QL MB es nd tla tlb res n ⟨h, gs, dr, t, os⟩ :=
  ⟨h, t, q, mb, qs, ms, kq, km, rest, v5, v6, v7, v8, v9, v10, v11, v12, rfl, H, R, m, l, y⟩
set_option maxHeartbeats 4000000 in
theorem while_ok {a b : Str} {ta tb tla tlb : Tok} {mt dm QL MB D J : Addr} {es : List DictEntry} {nd c n : Nat} {vs : List (Option Value)} {res : List Bk} {Q : Flow → Shared → Prop} {P : Shared → Prop} {s : Shared} {js : Array (Int × Value)} {jp : Nat} {jt : SetTable}
    (B : Bs w g) (hA : AOk A d u) (hd : d + 2 < recursionLimit) (hm : g.get? mt = some (instObj 249 dm)) (at_ : Att es vs c)
    (ea : vs[1]? = some (some (.str a ta))) (eb : vs[2]? = some (some (.str b tb))) (eD : vs[7]? = some (some (.ref D))) (eJ : vs[8]? = some (some (.ref J)))
    (hD : B2J w g D b.cps.toList) (hJ : g.get? J = some (sO js jp jt)) (hJ' : g.SetOf (strKind pw w) J (fun _ => false) 0) (ha : a.length ≤ 1000) (hb : b.length ≤ 1000)
    (I0 : QI w gs dr os g L a b mt dm QL MB es nd tla tlb res n s)
    (y : ∀ (h : Heap) (t : Nat) (ms : List Value) (km : Nat) (rest : List (Addr × Obj)) (v5 v6 v7 v8 v9 v10 v11 v12 : Option Value),
      Hp g L h (LV ns_gmb [some (.ref mt), some (.int (a.length : Nat) tla), some (.int (b.length : Nat) tlb), some (.ref QL), some (.ref MB), v5, v6, v7, v8, v9, v10, v11, v12, none, none, none, none, none, none, none])
        ((MB, lObj ms.toArray km) :: (dm, dictOf es nd) :: rest) → Mos rest ms res → P ⟨h, gs, dr, t, os⟩) :
    WP w A (exec (.While whileT whileB [] pos) (env_gmb L)) (Seq P Q) s := by
  refine while_inv (QI w gs dr os g L a b mt dm QL MB es nd tla tlb res) (fun n s C hC hI => ?_) n I0
  obtain ⟨h, t, q, mb, qs, ms, kq, km, rest, v5, v6, v7, v8, v9, v10, v11, v12, rfl, H, R, hms, hmb, hq⟩ := hI
  refine t_other ?_
  change WP w A (eval (.Name (Str.ofString "queue") _) _) _ _
  (with_reducible refine ld_gmb_3 ‹_› ?_)
  cases q with
  | none =>
    cases R
    dsimp only at hq
    subst hq
    refine t_list (H.at 0 rfl) (Nat.zero_le _) fun t' => ?_
    exact y h _ ms km rest v5 v6 v7 v8 v9 v10 v11 v12 (H.drop 0) hms
  | some x =>
    obtain ⟨alo, ahi, blo, bhi⟩ := x
    obtain ⟨⟨qa, o, rfl, hqa, ⟨u1, u2, u3, u4, rfl⟩⟩, b1, b2, b3, b4⟩ := hq
    dsimp only at b1 b2 b3 b4 hqa
    refine t_list (H.at 0 rfl) (by simp) fun t' => ?_
    change WP w A (execs (loopB (nthS (bodyOf (me 8 7)) 5)) (env_gmb L)) _ _
    refine r_cons ?_
    refine r_tup ?_
    refine e_meth ?_
    (with_reducible refine ld_gmb_3 ‹_› ?_)
    refine m_pop (H.at 0 rfl) ?_
    refine cw_pop (items := #[]) 0 H rfl (Nat.zero_le _) fun h1 k1 H1 => ?_
    dsimp only [List.set] at H1
    refine a_tupK [(Str.ofString "alo", _), (Str.ofString "ahi", _), (Str.ofString "blo", _), (Str.ofString "bhi", _)] hA.hh H1 (H1.mem (in3 hqa)) (by with_unfolding_all rfl) (by with_unfolding_all rfl) (by with_unfolding_all rfl) fun h2 k2 H2 => ?_
    dsimp only [List.map]
    repeat (first | (with_reducible refine stn_cons ?_) | with_reducible refine stn_nil ?_ | ((with_reducible first|refine st_gmb_5 ‹_› ?_|refine st_gmb_6 ‹_› ?_|refine st_gmb_7 ‹_› ?_|refine st_gmb_8 ‹_› ?_); intro _ _ _) | fail | (with_reducible refine r_cons ?_))
    refine r_two ?_
    refine e_meth ?_
    (with_reducible refine ld_gmb_0 ‹_› ?_)
    rename_i h3 t3 H3
    have M3 : Mat h3 mt dm es nd := ⟨H3.F.keep _ _ hm, H3.at 2 rfl, at_.s⟩
    refine m_flm B H3 M3 (by rw [at_.l]; exact LV_none (by decide)) ?_
    refine call_self ?_
    repeat (first | (with_reducible first|refine ld_gmb_5 ‹_› ?_|refine ld_gmb_6 ‹_› ?_|refine ld_gmb_7 ‹_› ?_|refine ld_gmb_8 ‹_› ?_) | (with_reducible first|refine sp_cons ?_|refine sp_nil ?_))
    refine keep_fn (H3.F.keep _ _ (B.K _ _ (lk_203 _))) rfl ?_
    refine flm_ok (B.keeps H3.F.keep) hA hd M3 (at_.get 1 rfl ea) (at_.get 2 rfl eb) (at_.get 7 rfl eD) (at_.get 8 rfl eJ) (hD.mono H3.F.keep) (H3.F.keep _ _ hJ) (let ⟨o, es, ep, tb, e, r⟩ := hJ'; ⟨o, es, ep, tb, H3.F.keep _ _ e, r⟩) ha hb b1 b2 b3 b4 fun x dd h4 t4 i j k ti tj tk x1 x2 x3 M => ?_
    have H4 := (H3.add x1 x2 x3).sink3
    refine a_tupM [(Str.ofString "i", _), (Str.ofString "j", _), (Str.ofString "k", _)] B hA.hh H4 x3 (by with_unfolding_all rfl) (by with_unfolding_all rfl) (by with_unfolding_all rfl) fun h5 k5 H5 => ?_
    dsimp only [List.map]
    repeat (first | (with_reducible refine stn_cons ?_) | with_reducible refine stn_nil ?_ | ((with_reducible first|refine st_gmb_9 ‹_› ?_|refine st_gmb_10 ‹_› ?_|refine st_gmb_11 ‹_› ?_); intro _ _ _) | fail | fail)
    refine a_name ?_
    repeat (first | ((with_reducible refine st_gmb_12 ‹_› ?_); intro _ _ _) | fail | (with_reducible first|refine r_if ?_|refine r_cons ?_))
    refine t_other ?_
    repeat (first | (with_reducible refine ld_gmb_11 ‹_› ?_) | fail)
    refine t_int ?_
    rename_i h6 t6 H6
    obtain ⟨i', j', k', M', hR⟩ := R.first
    obtain ⟨rfl, rfl, rfl⟩ := M.unique M'
    rcases hR with ⟨rfl, rfl, rfl⟩ | ⟨hk, one, hl, n', rfl, R'⟩
    · rw [if_neg (by simp)]
      refine r_nil (r_nilT (hC 0 _ Nat.zero_lt_one (QI.mk none H6 (.done res) (hms.mono fun p hp => .tail _ hp) hmb rfl)))
    · rw [if_pos (by simp; (first|lia|omega))]
      refine r_cons ?_
      refine r_expr ?_
      refine e_meth ?_
      (with_reducible refine ld_gmb_4 ‹_› ?_)
      refine m_append (H6.at 1 rfl) ?_
      refine cw_append ?_
      (with_reducible refine ld_gmb_12 ‹_› ?_)
      refine k_append 1 H6 rfl (by have := hms.length; simp; (first|lia|omega)) fun h7 H7 => ?_
      dsimp only [List.set] at H7
      rw [List.push_toArray] at H7
      have hms7 := (hms.mono (r' := (x, mObj dd #[.int (i : Nat) ti, .int (j : Nat) tj, .int (k : Nat) tk]) :: rest) fun p hp => .tail _ hp).snoc (.head _) (b := (i, j, k)) ⟨_, _, _, _, rfl⟩
      refine r_cons ?_
      refine r_if ?_
      refine t_and2 (p := decide ((alo : Int) < i)) (q := decide ((blo : Int) < j)) (fun Q' z => by
      repeat (first | (with_reducible first|refine ld_gmb_5 ‹_› ?_|refine ld_gmb_9 ‹_› ?_) | (with_reducible first|refine t_cmp ?_|refine t_bool ?_|refine c_lt ?_))
      exact z _) (fun _ Q' z => by
      repeat (first | (with_reducible first|refine ld_gmb_7 ‹_› ?_|refine ld_gmb_10 ‹_› ?_) | (with_reducible first|refine t_cmp ?_|refine t_bool ?_|refine c_lt ?_))
      exact z _) fun t8 => ?_
      by_cases c1 : alo < i ∧ blo < j
      · have c2 : ¬ (i + k < ahi ∧ j + k < bhi) := fun c => one ⟨c1, c⟩
        rw [show (decide ((alo : Int) < i) && decide ((blo : Int) < j)) = true by simp; (first|lia|omega)]
        rw [if_pos rfl]
        refine r_cons ?_
        refine r_expr ?_
        refine e_meth ?_
        (with_reducible refine ld_gmb_3 ‹_› ?_)
        refine m_append (H7.at 0 rfl) ?_
        refine cw_append ?_
        repeat (first | (with_reducible first|refine ld_gmb_5 ‹_› ?_|refine ld_gmb_7 ‹_› ?_|refine ld_gmb_9 ‹_› ?_|refine ld_gmb_10 ‹_› ?_) | (first|(with_reducible first|refine sp_cons ?_|refine sp_nil ?_|refine e_tuple ‹_› ?_)|(with_reducible refine n_tuple ‹_› ?_; intro _ _ _ _ _ _)))
        rename_i qa' h8 H8 _ _ _
        refine k_append 0 H8.sink3 rfl (Nat.zero_le _) fun h9 H9 => ?_
        dsimp only [List.set] at H9
        refine r_nil ?_
        refine r_cons ?_
        refine r_if ?_
        refine t_and2 (p := decide (((i : Int) + k) < ahi)) (q := decide (((j : Int) + k) < bhi)) (fun Q' z => by
          repeat (first | (with_reducible first|refine ld_gmb_6 ‹_› ?_|refine ld_gmb_9 ‹_› ?_|refine ld_gmb_11 ‹_› ?_) | (first|(with_reducible first|refine e_bin ?_|refine t_cmp ?_|refine t_bool ?_)|(with_reducible refine o_add ?_; intro _ _)|with_reducible refine c_lt ?_))
          exact z _) (fun _ Q' z => by
          repeat (first | (with_reducible first|refine ld_gmb_8 ‹_› ?_|refine ld_gmb_10 ‹_› ?_|refine ld_gmb_11 ‹_› ?_) | (first|(with_reducible first|refine e_bin ?_|refine t_cmp ?_|refine t_bool ?_)|(with_reducible refine o_add ?_; intro _ _)|with_reducible refine c_lt ?_))
          exact z _) fun t9 => ?_
        rw [show (decide (((i : Int) + k) < ahi) && decide (((j : Int) + k) < bhi)) = false by simp; (first|lia|omega)]
        rw [if_neg (by decide)]
        refine r_nil (r_nil (r_nilT (hC n' _ (Nat.lt_succ_self _) (QI.mk (some (alo, i, blo, j)) (qs := [.ref qa']) H9 ?_ (hms7.mono fun p hp => .tail _ hp) (by simp; (first|lia|omega)) ⟨⟨qa', _, rfl, .head _, ⟨_, _, _, _, rfl⟩⟩, ?_⟩))))
        · have e : nextQ alo ahi blo bhi i j k = some (alo, i, blo, j) := if_pos c1
          rw [← e]; exact R'
        · have := M.hi
          dsimp only
          (first|lia|omega)
      · rw [show (decide ((alo : Int) < i) && decide ((blo : Int) < j)) = false by simp; (first|lia|omega)]
        rw [if_neg (by decide)]
        refine r_nil ?_
        refine r_cons ?_
        refine r_if ?_
        refine t_and2 (p := decide (((i : Int) + k) < ahi)) (q := decide (((j : Int) + k) < bhi)) (fun Q' z => by
          repeat (first | (with_reducible first|refine ld_gmb_6 ‹_› ?_|refine ld_gmb_9 ‹_› ?_|refine ld_gmb_11 ‹_› ?_) | (first|(with_reducible first|refine e_bin ?_|refine t_cmp ?_|refine t_bool ?_)|(with_reducible refine o_add ?_; intro _ _)|with_reducible refine c_lt ?_))
          exact z _) (fun _ Q' z => by
          repeat (first | (with_reducible first|refine ld_gmb_8 ‹_› ?_|refine ld_gmb_10 ‹_› ?_|refine ld_gmb_11 ‹_› ?_) | (first|(with_reducible first|refine e_bin ?_|refine t_cmp ?_|refine t_bool ?_)|(with_reducible refine o_add ?_; intro _ _)|with_reducible refine c_lt ?_))
          exact z _) fun t9 => ?_
        by_cases c2 : i + k < ahi ∧ j + k < bhi
        · rw [show (decide (((i : Int) + k) < ahi) && decide (((j : Int) + k) < bhi)) = true by simp; (first|lia|omega)]
          rw [if_pos rfl]
          refine r_cons ?_
          refine r_expr ?_
          refine e_meth ?_
          (with_reducible refine ld_gmb_3 ‹_› ?_)
          refine m_append (H7.at 0 rfl) ?_
          refine cw_append ?_
          repeat (first | (with_reducible first|refine ld_gmb_6 ‹_› ?_|refine ld_gmb_8 ‹_› ?_|refine ld_gmb_9 ‹_› ?_|refine ld_gmb_10 ‹_› ?_|refine ld_gmb_11 ‹_› ?_) | (first|(with_reducible first|refine e_bin ?_|refine sp_cons ?_|refine sp_nil ?_)|(with_reducible refine o_add ?_; intro _ _)|with_reducible refine e_tuple ‹_› ?_|(with_reducible refine n_tuple ‹_› ?_; intro _ _ _ _ _ _)))
          rename_i qa' h8 H8 _ _ _
          refine k_append 0 H8.sink3 rfl (Nat.zero_le _) fun h9 H9 => ?_
          dsimp only [List.set] at H9
          refine r_nil ?_
          refine r_nil (r_nilT (hC n' _ (Nat.lt_succ_self _) (QI.mk (some (i + k, ahi, j + k, bhi)) (qs := [.ref qa']) H9 ?_ (hms7.mono fun p hp => .tail _ hp) (by simp; (first|lia|omega)) ⟨⟨qa', _, rfl, .head _, ⟨_, _, _, _, rfl⟩⟩, ?_⟩)))
          · have e : nextQ alo ahi blo bhi i j k = some (i + k, ahi, j + k, bhi) := (if_neg c1).trans (if_pos c2)
            rw [← e]; exact R'
          · dsimp only
            (first|lia|omega)
        · rw [show (decide (((i : Int) + k) < ahi) && decide (((j : Int) + k) < bhi)) = false by simp; (first|lia|omega)]
          rw [if_neg (by decide)]
          refine r_nil (r_nil (r_nilT (hC n' _ (Nat.lt_succ_self _) (QI.mk none (qs := []) H7 ?_ hms7 (by simp; (first|lia|omega)) rfl))))
          have e : nextQ alo ahi blo bhi i j k = none := (if_neg c1).trans (if_neg c2)
          rw [← e]; exact R'
end
section
variable (p : Program) (P : Params) (x y n t d e : Nat) (a b c a' b' c' : Value)
theorem so1 : run (kfP P) fastT ⟨p, P⟩ 400 none n t [some (mObj d #[a, b, c]), none] Fin (callAny (.builtin "tuple.__lt__") ⟨[.ref x, .ref y], []⟩) = some ⟨.ok (.again (.builtin "tuple.__lt__" ⟨[.ref x, .ref y], []⟩)), t, [], n, [.load x (mObj d #[a, b, c])]⟩ := by kernel_rfl!
theorem so2 : run (kfP P) fastT ⟨p, P⟩ 400 none n t [some (mObj d #[a, b, c]), none] Bool (isInstance (.ref x) (.type "tuple")) = some ⟨.ok true, t, [], n, [.load x (mObj d #[a, b, c])]⟩ := by kernel_rfl!
theorem so3 : run (kfP P) fastT ⟨p, P⟩ 400 none n t [] (Value × List Value) (bindSpecial (.builtin "tuple.__lt__") (.ref x)) = some ⟨.ok (.builtin "tuple.__lt__", [.ref x]), t, [], n, []⟩ := by kernel_rfl!
theorem so4 : run (kfP P) fastT ⟨p, P⟩ 400 none n t (mF x d a b c) (Option Value) (specialOf (.ref x) "__lt__") = some ⟨.ok (some (.builtin "tuple.__lt__")), t, [], n, [.load x (mObj d #[a, b, c])]⟩ := by kernel_rfl!
theorem so5 : run (kfP P) fastT ⟨p, P⟩ 400 none n t [some (mObj d #[a, b, c]), some (mObj e #[a', b', c']), some (mObj d #[a, b, c]), some (mObj e #[a', b', c'])] SortKind (keyKind' #[.ref x, .ref y]) = some ⟨.ok oneType', t, [], n, [.load x (mObj d #[a, b, c]), .load y (mObj e #[a', b', c']), .load x (mObj d #[a, b, c]), .load y (mObj e #[a', b', c'])]⟩ := by kernel_rfl!
end
section
variable {w : World} {A : Around} {gs : Array GenState} {dr : Drawn} {os : OsState} {g h : Heap} {t : Nat} {d u : Nat} {b c b' c' : Value} {x y d1 d2 : Addr} {i j : Int} {ti tj : Tok}
theorem call_lt {Q : Value → Shared → Prop} (B : Bs w g) (k : Ext g h) (hh : A.handled = none) (hx : h.get? x = some (mObj d1 #[.int i ti, b, c])) (hy : h.get? y = some (mObj d2 #[.int j tj, b', c'])) (hne : i ≠ j)
    (z : Q (.bool (decide (i < j))) ⟨h, gs, dr, t, os⟩) : WP w A (call (.builtin "tuple.__lt__") [.ref x, .ref y]) Q ⟨h, gs, dr, t, os⟩ := by
  have gv := given_of B k
  have e1 := so1 pw w.params x y h.objs.size t d1 (.int i ti) b c
  have e2 := so2 pw w.params y h.objs.size t d2 (.int j tj) b' c'
  rw [← table_eq_fast] at e1 e2
  refine wpAny_call (X.x_code ?_)
  refine run_sound (s := ⟨h, gs, dr, t, os⟩) e1 gv hh rfl rfl ⟨hx, ?_⟩
  refine ⟨Code.quiet_builtin _ (by decide +kernel), ?_⟩
  refine codeAny_builtin F.entry_tuple_lt ?_
  have hA1 : (A.under (.builtin "tuple.__lt__" ⟨[.ref x, .ref y], []⟩)).handled = none := hh
  generalize A.under _ = A1 at hA1
  refine wpAny_bind (wpAny_of_eq (a := (.ref x, [.ref y])) rfl ?_)
  dsimp only
  refine wpAny_bind (run_sound (A := A1) (s := ⟨h, gs, dr, t, os⟩) e2 gv hA1 rfl rfl ⟨hy, ?_⟩)
  show wpAny _ _ _ _ _ _
  simp only [Bool.not_true, Bool.false_eq_true, if_false]
  unfold Builtin.Tuple.tupleItemsOf
  refine wpAny_bind (wpAny_bind (wpAny_seqItems hx rfl (wpAny_pure ?_)))
  refine wpAny_bind (wpAny_bind (wpAny_seqItems hy rfl (wpAny_pure ?_)))
  have hij : (i == j) = false := by simpa using hne
  refine wpAny_bind ?_
  show wpAny _ _ (forIn [((.int i ti : Value), (.int j tj : Value)), (b, b'), (c, c')] _ _) _ _ _
  rw [List.forIn_cons]
  refine wpAny_bind (wpAny_bind (wpAny_eqBool_int ?_))
  simp only [hij, Bool.not_false, if_true]
  refine wpAny_bind (wpAny_rule (wpAny_bind ?_))
  refine lt_int ?_
  refine wpAny_bind (wpAny_pure (wpAny_pure (wpAny_pure (wpAny_pure z))))
theorem one_lt {Q : Bool → Shared → Prop} (B : Bs w g) (k : Ext g h) (hA : AOk A d u) (hu : u < cLine) (hx : h.get? x = some (mObj d1 #[.int i ti, b, c])) (hy : h.get? y = some (mObj d2 #[.int j tj, b', c'])) (hne : i ≠ j)
    (z : Q (decide (i < j)) ⟨h, gs, dr, t, os⟩) : WP w A (oneLt' true (.ref x) (.ref y)) Q ⟨h, gs, dr, t, os⟩ := by
  have gv := given_of B k
  have e3 := so3 pw w.params x h.objs.size t
  have e4 := so4 pw w.params x h.objs.size t d1 (.int i ti) b c
  rw [← table_eq_fast] at e3 e4
  rw [oneLt'_eq]
  simp only [if_true]
  refine wpAny_bind (wpAny_cRoomFor (Nat.lt_of_le_of_lt hA.hu hu) ?_)
  refine wpAny_bind ?_
  unfold callSpecialIfBound?
  refine wpAny_holding (wpAny_bind (bsb (f := .builtin "tuple.__lt__") (run_sound (s := ⟨h, gs, dr, t, os⟩) e4 gv hA.hh rfl rfl ⟨hx, rfl, rfl⟩) (run_sound (s := ⟨h, gs, dr, t, os⟩) e3 gv hA.hh rfl rfl ⟨rfl, rfl⟩) ?_))
  refine wpAny_bind (call_lt B k hA.hh hx hy hne (wpAny_pure ?_))
  refine wpAny_bind (wpAny_truthy_bool (wpAny_pure ?_))
  exact z
end
-- the sort of a list of two
section
variable {w : World} {A : Around} {s : Shared} {st : SortSt} {b : Bool}
noncomputable abbrev Lt10 (w : World) (A : Around) (s : Shared) (st : SortSt) (b : Bool) : Prop := ∀ Q' : Option Bool → SortSt → Prop, Q' (some b) st → wpS (model pw w) A (fun _ _ => False) s (ltAt' 1 0) Q' st
theorem count2 {Q : Option Nat → SortSt → Prop} (hlt : Lt10 w A s st b) (h : Q (some 2) (if b then setArr st (mirror (arrOf st) 0 2 1) else st)) : wpS (model pw w) A (fun _ _ => False) s (countRun' 0 2) Q st := by
  rw [countRun0_eq]
  have r01 : ∀ {Q' : PUnit → SortSt → Prop} {st'}, Q' ⟨⟩ (setArr st' (mirror (arrOf st') 0 2 1)) → wpS (model pw w) A (fun _ _ => False) s (reverseSlice' 0 2) Q' st' := fun hq => wpS_reverse hq
  unfold ascLoop
  refine wpS_bind (wpS_mono (Q := fun c st' => st' = st ∧ c = (none, if b then 1 else 2)) (wpS_forRange (I := fun x c st' => st' = st ∧ ((x = 1 ∧ c = (none, 1)) ∨ (x = 2 ∧ b = false ∧ c = (none, 2)))) ?_ ?_ ⟨rfl, .inl ⟨rfl, rfl⟩⟩) ?_)
  · rintro x c st' h1 h2 ⟨rfl, ⟨rfl, rfl⟩ | ⟨rfl, -, -⟩⟩
    · dsimp only
      refine wpS_bind (hlt _ ?_)
      dsimp only
      cases b with
      | true => exact wpS_pure ⟨rfl, rfl⟩
      | false => exact wpS_pure ⟨rfl, .inr ⟨rfl, rfl, rfl⟩⟩
    · (first|lia|omega)
  · rintro c st' ⟨rfl, ⟨h1, -⟩ | ⟨h1, rfl, rfl⟩⟩
    · (first|lia|omega)
    · exact ⟨rfl, rfl⟩
  · rintro c st' ⟨rfl, rfl⟩
    cases b with
    | false => exact wpS_pure h
    | true =>
      dsimp only
      unfold descPart descLoop tail3 ascLoop
      refine wpS_bind (wpS_lift (wpAny_rule ⟨rfl, ?_⟩))
      refine wpS_bind (wpS_mono (Q := fun c st'' => st'' = st' ∧ c = (none, 2, 0)) (wpS_forRange (I := fun x c st'' => st'' = st' ∧ c = (none, 2, 0)) ?_ ?_ ⟨rfl, rfl⟩) ?_)
      · intro x c st'' h1 h2; exact absurd h2 (by simp at h1; (first|lia|omega))
      · exact fun c st'' z => z
      · rintro c st'' ⟨rfl, rfl⟩
        dsimp only
        refine wpS_bind (r01 ?_)
        refine wpS_bind (wpS_mono (Q := fun c st3 => st3 = setArr st'' (mirror (arrOf st'') 0 2 1) ∧ c = (none, 2)) (wpS_forRange (I := fun x c st3 => st3 = setArr st'' (mirror (arrOf st'') 0 2 1) ∧ c = (none, 2)) ?_ ?_ ⟨rfl, rfl⟩) ?_)
        · intro x c st3 h1 h2; exact absurd h2 (by (first|lia|omega))
        · exact fun c st3 z => z
        · rintro c st3 ⟨rfl, rfl⟩
          exact wpS_pure h
theorem mirror2 {α : Type} (p q : α) : mirror #[p, q] 0 2 1 = #[q, p] := by
  simp [mirror, List.range_succ, Array.swapIfInBounds]
theorem runs2 {Q : Unit → SortSt → Prop} {p q : Keyed} {kd : SortKind} (hlt : Lt10 w A s (SortSt.mk' kd #[p, q] #[] 7 none) b)
    (h : ∀ st', arrOf st' = (if b then #[q, p] else #[p, q]) → failedOf st' = none → Q () st') : wpS (model pw w) A (fun _ _ => False) s sortRuns' Q (SortSt.mk' kd #[p, q] #[] 7 none) := by
  generalize hst : SortSt.mk' kd #[p, q] #[] 7 none = st0 at hlt ⊢
  have ha : arrOf st0 = #[p, q] := by subst hst; rfl
  have hf : failedOf st0 = none := by subst hst; rfl
  have hp : pendingOf st0 = #[] := by subst hst; rfl
  have hs : (arrOf st0).size = 2 := by rw [ha]; rfl
  rw [sortRuns'_eq]
  refine wpS_bind (wpS_get ?_)
  dsimp only
  have hmr : minRun' 2 2 0 = 2 := rfl
  simp only [hs, hmr]
  refine wpS_bind (wpS_mono (Q := fun c st' => c = (none, 2) ∧ arrOf st' = (if b then #[q, p] else #[p, q]) ∧ failedOf st' = none ∧ (pendingOf st').size = 1) (wpS_forRange
    (I := fun x c st' => (x = 0 ∧ c = (none, 0) ∧ st' = st0) ∨ (1 ≤ x ∧ c = (none, 2) ∧ arrOf st' = (if b then #[q, p] else #[p, q]) ∧ failedOf st' = none ∧ (pendingOf st').size = 1)) ?_ ?_ (.inl ⟨rfl, rfl, rfl⟩)) ?_)
  · rintro x c st' _ hx (⟨rfl, rfl, rfl⟩ | ⟨hx1, rfl, r⟩)
    · dsimp only
      rw [if_neg (by (first|lia|omega))]
      simp only [Nat.sub_zero, Nat.min_self, Nat.zero_add]
      refine wpS_bind (count2 hlt ?_)
      dsimp only
      rw [if_neg (by (first|lia|omega))]
      refine wpS_bind (wpS_get ?_)
      have hb : (pendingOf (if b then setArr st' (mirror (arrOf st') 0 2 1) else st')) = #[] := by
        cases b with
        | true => exact hp
        | false => exact hp
      have hb' : (pendingOf (if b then setArr st' (mirror (arrOf st') 0 2 1) else st')).back? = none := by rw [hb]; rfl
      rw [hb']
      dsimp only
      refine wpS_bind (wpS_modify (wpS_pure (.inr ⟨by (first|lia|omega), rfl, ?_, ?_, ?_⟩)))
      · show arrOf (if b then setArr st' (mirror (arrOf st') 0 2 1) else st') = _
        cases b with
        | true => show mirror (arrOf st') 0 2 1 = #[q, p]; rw [ha]; exact mirror2 p q
        | false => exact ha
      · show failedOf (if b then setArr st' (mirror (arrOf st') 0 2 1) else st') = _
        cases b with
        | true => exact hf
        | false => exact hf
      · show ((pendingOf (if b then setArr st' (mirror (arrOf st') 0 2 1) else st')).push _).size = 1
        rw [hb]; rfl
    · dsimp only
      rw [if_pos (Nat.le_refl _)]
      exact wpS_pure ⟨rfl, r⟩
  · rintro c st' (⟨hx, -, -⟩ | ⟨-, r⟩)
    · (first|lia|omega)
    · exact r
  · rintro c st' ⟨rfl, r1, r2, r3⟩
    dsimp only
    refine wpS_bind (wpS_mono (Q := fun c st'' => st'' = st' ∧ c = (none, ())) (wpS_forRange (I := fun _ c st'' => st'' = st' ∧ c = (none, ())) ?_ (fun _ _ hh => hh) ⟨rfl, rfl⟩) ?_)
    · rintro x c st'' _ _ ⟨rfl, rfl⟩
      refine wpS_bind (wpS_get ?_)
      rw [if_pos (by rw [r3]; exact Nat.le_refl 1)]
      exact wpS_pure ⟨rfl, rfl⟩
    · rintro c st'' ⟨rfl, rfl⟩
      exact wpS_pure (h _ r1 r2)
end
section
variable {w : World} {A : Around} {gs : Array GenState} {dr : Drawn} {os : OsState} {g h : Heap} {t : Nat} {d u : Nat} {b c b' c' : Value} {x y d1 d2 : Addr} {i j : Int} {ti tj : Tok} {L : Addr} {m : Str → Option Value} {news : List (Addr × Obj)}
theorem lt10 (B : Bs w g) (k : Ext g h) (hA : AOk A d u) (hu : u < cLine) (hx : h.get? x = some (mObj d1 #[.int i ti, b, c])) (hy : h.get? y = some (mObj d2 #[.int j tj, b', c'])) (hne : i ≠ j) :
    Lt10 w A ⟨h, gs, dr, t, os⟩ (SortSt.mk' oneType' #[(.ref y, .ref y), (.ref x, .ref x)] #[] 7 none) (decide (i < j)) := by
  intro Q' hq
  rw [ltAt'_eq]
  refine wpS_bind (wpS_get ?_)
  show wpS _ _ _ _ (do let k1 ← elem' #[(.ref y, .ref y), (.ref x, .ref x)] 1; let k2 ← elem' #[(.ref y, .ref y), (.ref x, .ref x)] 0; lt' k1 k2) Q' _
  rw [elem'_eq, elem'_eq]
  refine wpS_bind (wpS_pure (wpS_bind (wpS_pure ?_)))
  rw [lt'_eq]
  refine wpS_bind (wpS_get ?_)
  show wpS _ _ _ _ ((liftM (keyLt' oneType' (.ref x) (.ref y)).attempt) >>= _) Q' _
  rw [keyLt'_oneType]
  refine wpS_bind (wpS_lift (wpAny_attempt (wpAny_mono (one_lt (gs := gs) (dr := dr) (os := os) (t := t) (Q := fun r s' => r = decide (i < j) ∧ s' = ⟨h, gs, dr, t, os⟩) B k hA hu hx hy hne ⟨rfl, rfl⟩) (fun r s' e => ?_) fun _ _ e => e.elim)))
  obtain ⟨rfl, rfl⟩ := e
  exact ⟨rfl, wpS_pure hq⟩
-- the sort of at most two Match objects
noncomputable def Asc (bs : List Bk) : List Bk := match bs with
  | [p, q] => if q.1 < p.1 then [q, p] else [p, q]
  | bs => bs
theorem sort_few {l : Addr} {vs : List Value} {k : Nat} {bs : List Bk} {rest : List (Addr × Obj)} {P : PySem.Fin → Shared → Prop} {E : Value → Shared → Prop} (B : Bs w g) (hA1 : AOk A d u) (hu : u < cLine) (H : Hp g L h m ((l, lObj vs.toArray k) :: rest)) (M : Mos rest vs bs) (h2 : bs.length ≤ 2)
    (hne : ∀ p q, bs = [p, q] → p.1 ≠ q.1)
    (z : ∀ h' vs' k', Hp g L h' m ((l, lObj vs'.toArray k') :: rest) → Mos rest vs' (Asc bs) → P (.done (.ret .none)) ⟨h', gs, dr, t, os⟩) : wpAny (model pw w) A (Builtin.«list.sort» ⟨[.ref l], []⟩) P E ⟨h, gs, dr, t, os⟩ := by
  have hlen := M.length
  rw [list_sort_plain]
  refine wpAny_bind (listItems_at (H.at 0 rfl) rfl ?_)
  refine wpAny_bind (listUpdate_at (H.at 0 rfl) rfl ?_ (by rw [sizeLine_eq]; simp; (first|lia|omega)) (by simp))
  have H1 := H.upd 0 rfl (Obj.mapSeq fun _ => #[])
  obtain ⟨e1, he1⟩ : ∃ e, Obj.mapSeq (fun _ => #[]) (lObj vs.toArray k) = lObj #[] e := ⟨_, rfl⟩
  rw [he1] at H1
  dsimp only [List.set] at H1
  refine wpAny_bind (seqEpoch_at (H1.at 0 rfl) rfl ?_)
  refine wpAny_bind (wpAny_newTuple ?_ (by rw [sizeLine_eq]; simp; (first|lia|omega)))
  refine wpAny_bind (wpAny_newList ?_)
  refine wpAny_holding ?_
  have H2 := ((H1.push (seqObj "tuple" vs.toArray.toList.toArray 0)).push (seqObj "list" ([] : List Value).toArray 0)).skip 2
  dsimp only [List.drop] at H2
  generalize (((h.update l (Obj.mapSeq fun _ => #[])).push (seqObj "tuple" vs.toArray.toList.toArray 0)).push (seqObj "list" ([] : List Value).toArray 0)) = h2' at H2 ⊢
  cases M with
  | nil =>
    simp only [List.size_toArray, List.length_cons, List.length_nil, Nat.zero_add, show (0 : Nat) < 2 by decide, show (1 : Nat) < 2 by decide, if_true]
    refine wpAny_bind (wpAny_pure ?_)
    rw [StateT.run_pure]
    refine wpAny_bind (wpAny_pure ?_)
    dsimp only
    have hout : (arrOf (SortSt.mk' general' (([] : List Value).toArray.zip ([] : List Value).toArray) #[] 7 none)).map (·.2) = ([] : List Value).toArray := by show (([] : List Value).toArray.zip ([] : List Value).toArray).map (·.2) = _; simp
    refine wpAny_bind (seqEpoch_at (H2.at 0 rfl) rfl ?_)
    refine wpAny_bind (listUpdate_at (H2.at 0 rfl) rfl ?_ (Nat.zero_le _) (by rw [hout, sizeLine_eq]; simp))
    try dsimp only
    simp only [bne_self_eq_false, Bool.false_eq_true, if_false]
    have H3 := H2.upd 0 rfl (Obj.mapSeq fun _ => ([] : List Value).toArray)
    obtain ⟨e3, he3⟩ : ∃ e, Obj.mapSeq (fun _ => ([] : List Value).toArray) (lObj #[] e1) = lObj ([] : List Value).toArray e := ⟨_, rfl⟩
    rw [he3] at H3
    rw [hout]
    exact wpAny_pure (z _ ([] : List Value) _ H3 .nil)
  | @cons x1 o1 b1 vs1 bs1 a1 i1 M => cases M with
    | nil =>
      simp only [List.size_toArray, List.length_cons, List.length_nil, Nat.zero_add, show (0 : Nat) < 2 by decide, show (1 : Nat) < 2 by decide, if_true]
      refine wpAny_bind (wpAny_pure ?_)
      rw [StateT.run_pure]
      refine wpAny_bind (wpAny_pure ?_)
      dsimp only
      have hout : (arrOf (SortSt.mk' general' (([.ref x1] : List Value).toArray.zip ([.ref x1] : List Value).toArray) #[] 7 none)).map (·.2) = ([.ref x1] : List Value).toArray := by show (([.ref x1] : List Value).toArray.zip ([.ref x1] : List Value).toArray).map (·.2) = _; simp
      refine wpAny_bind (seqEpoch_at (H2.at 0 rfl) rfl ?_)
      refine wpAny_bind (listUpdate_at (H2.at 0 rfl) rfl ?_ (Nat.zero_le _) (by rw [hout, sizeLine_eq]; simp))
      try dsimp only
      simp only [bne_self_eq_false, Bool.false_eq_true, if_false]
      have H3 := H2.upd 0 rfl (Obj.mapSeq fun _ => [(.ref x1 : Value)].toArray)
      obtain ⟨e3, he3⟩ : ∃ e, Obj.mapSeq (fun _ => [(.ref x1 : Value)].toArray) (lObj #[] e1) = lObj [(.ref x1 : Value)].toArray e := ⟨_, rfl⟩
      rw [he3] at H3
      rw [hout]
      exact wpAny_pure (z _ [(.ref x1 : Value)] _ H3 (.cons a1 i1 .nil))
    | @cons x2 o2 b2 vs2 bs2 a2 i2 M => cases M with
      | nil =>
        obtain ⟨dd1, ta1, tb1, tc1, rfl⟩ := id i1
        obtain ⟨dd2, ta2, tb2, tc2, rfl⟩ := id i2
        simp only [List.size_toArray, List.length_cons, List.length_nil, Nat.zero_add, Nat.reduceAdd, Nat.lt_irrefl, if_false]
        have e5 := so5 pw w.params x1 x2 h2'.objs.size t dd1 dd2 (.int (b1.1 : Nat) ta1) (.int (b1.2.1 : Nat) tb1) (.int (b1.2.2 : Nat) tc1) (.int (b2.1 : Nat) ta2) (.int (b2.2.1 : Nat) tb2) (.int (b2.2.2 : Nat) tc2)
        rw [← table_eq_fast] at e5
        have m1 := H2.mem (.tail _ a1)
        have m2 := H2.mem (.tail _ a2)
        refine wpAny_bind (run_sound (s := ⟨h2', gs, dr, t, os⟩) e5 (given_of B H2.F.keep) hA1.hh rfl rfl ⟨m1, m2, m1, m2, ?_⟩)
        show wpAny _ _ _ _ _ _
        have hz : #[Value.ref x1, Value.ref x2].zip #[Value.ref x1, Value.ref x2] = #[(Value.ref x1, Value.ref x1), (Value.ref x2, Value.ref x2)] := by simp
        rw [show ([Value.ref x1, Value.ref x2].toArray.zip [Value.ref x1, Value.ref x2].toArray) = #[(Value.ref x1, Value.ref x1), (Value.ref x2, Value.ref x2)] from hz]
        have hne' : b1.1 ≠ b2.1 := hne _ _ rfl
        refine wpAny_bind (wpAny_mono (runs2 (lt10 B H2.F.keep hA1 hu m2 m1 (by (first|lia|omega))) (Q := fun _ st' => arrOf st' = (if decide ((b2.1 : Int) < b1.1) then #[(Value.ref x2, Value.ref x2), (Value.ref x1, Value.ref x1)] else #[(Value.ref x1, Value.ref x1), (Value.ref x2, Value.ref x2)]) ∧ failedOf st' = none) fun st' q1 q2 => ⟨q1, q2⟩) ?_ fun _ _ e => e.elim)
        rintro ⟨⟨⟩, st'⟩ s' ⟨rfl, q1, q2⟩
        dsimp only at q1 q2 ⊢
        by_cases hb : b2.1 < b1.1
        · rw [if_pos (by simp; (first|lia|omega))] at q1
          have hout : (arrOf st').map (·.2) = ([.ref x2, .ref x1] : List Value).toArray := by rw [q1]; simp
          refine wpAny_bind (seqEpoch_at (H2.at 0 rfl) rfl ?_)
          refine wpAny_bind (listUpdate_at (H2.at 0 rfl) rfl ?_ (Nat.zero_le _) (by rw [hout, sizeLine_eq]; simp))
          rw [q2]
          try dsimp only
          simp only [bne_self_eq_false, Bool.false_eq_true, if_false]
          have H3 := H2.upd 0 rfl (Obj.mapSeq fun _ => [(.ref x2 : Value), .ref x1].toArray)
          obtain ⟨e3, he3⟩ : ∃ e, Obj.mapSeq (fun _ => [(.ref x2 : Value), .ref x1].toArray) (lObj #[] e1) = lObj [(.ref x2 : Value), .ref x1].toArray e := ⟨_, rfl⟩
          rw [he3] at H3
          rw [hout]
          exact wpAny_pure (z _ [(.ref x2 : Value), .ref x1] _ H3 (by rw [show Asc [b1, b2] = [b2, b1] from if_pos hb]; exact .cons a2 i2 (.cons a1 i1 .nil)))
        · rw [if_neg (by simp; (first|lia|omega))] at q1
          have hout : (arrOf st').map (·.2) = ([.ref x1, .ref x2] : List Value).toArray := by rw [q1]; simp
          refine wpAny_bind (seqEpoch_at (H2.at 0 rfl) rfl ?_)
          refine wpAny_bind (listUpdate_at (H2.at 0 rfl) rfl ?_ (Nat.zero_le _) (by rw [hout, sizeLine_eq]; simp))
          rw [q2]
          try dsimp only
          simp only [bne_self_eq_false, Bool.false_eq_true, if_false]
          have H3 := H2.upd 0 rfl (Obj.mapSeq fun _ => [(.ref x1 : Value), .ref x2].toArray)
          obtain ⟨e3, he3⟩ : ∃ e, Obj.mapSeq (fun _ => [(.ref x1 : Value), .ref x2].toArray) (lObj #[] e1) = lObj [(.ref x1 : Value), .ref x2].toArray e := ⟨_, rfl⟩
          rw [he3] at H3
          rw [hout]
          exact wpAny_pure (z _ [(.ref x1 : Value), .ref x2] _ H3 (by rw [show Asc [b1, b2] = [b1, b2] from if_neg hb]; exact .cons a1 i1 (.cons a2 i2 .nil)))
      | cons a3 b3 M => simp at h2
end
theorem lk_96 (P : Params) : (KF P).lookup 96 = some (o96 P) := by kernel_rfl!
theorem cd_96 (P : Params) : codeIn (KF P) (.ref 95) (Str.ofString "Match._make") = true := by kernel_rfl!
noncomputable abbrev meObj : Obj := { cls := .type "method", data := .fields #[.ref 96, .ref 142] }
section
variable (p : Program) (P : Params) (n t q x d : Nat) (a b c : Value)
theorem ma1 : run (kfP P) fastT ⟨p, P⟩ 400 none n t (nn 11) Value (getAttr (.ref 142) (Str.ofString "_make") true) = some ⟨.ok (.ref n), t + 1, [], n + 1, [.alloc meObj]⟩ := by kernel_rfl!
theorem ma2 : run (kfP P) fastT ⟨p, P⟩ 400 none n t [some meObj] Fin (callAny (.ref q) ⟨[.ref x], []⟩) = some ⟨.ok (.again (.call (.ref 96) ⟨[.ref 142, .ref x], []⟩)), t, [], n, [.load q meObj]⟩ := by kernel_rfl!
theorem ma3 : run (kfP P) fastT ⟨p, P⟩ 400 none n t [some (mObj d #[a, b, c]), none, none, none, some (mObj d #[a, b, c]), none, some (mObj d #[a, b, c])] Value (call (.builtin "len") [.ref x]) = some ⟨.ok (.int 3 (t + 1)), t + 2, [], n, [.load x (mObj d #[a, b, c]), .load x (mObj d #[a, b, c]), .load x (mObj d #[a, b, c])]⟩ := by kernel_rfl!
theorem ma4 (l f : Nat) : run (kfP P) fastT ⟨p, P⟩ 400 none n t [] Fin (callAny (.type "map") ⟨[.ref f, .ref l], []⟩) = some ⟨.ok (.again (.builtin "type.__call__" ⟨[.type "map", .ref f, .ref l], []⟩)), t, [], n, []⟩ := by kernel_rfl!
noncomputable def mapN (l f : Nat) := runTo (kfP P) fastT ⟨p, P⟩ (fun c => match c with | .call (.builtin id) _ => id == "map.__new__" | _ => false) 400 none n t [] Fin (denote fastT (.builtin "type.__call__" ⟨[.type "map", .ref f, .ref l], []⟩))
theorem ma5 (l f : Nat) : (mapN p P n t l f).map (fun r => (r.t, r.os, r.n, r.evs, r.c)) = some (t, [], n, [], .call (.builtin "map.__new__") ⟨[.type "map", .ref f, .ref l], []⟩) := by kernel_rfl!
noncomputable abbrev mapObj (tu f : Addr) : Obj := { cls := .type "map", data := .fields #[.ref tu, .ref f] }
theorem ma7 (l f : Nat) : run (kfP P) fastT ⟨p, P⟩ 400 none n t [] Fin (callAny (.builtin "map.__new__") ⟨[.type "map", .ref f, .ref l], []⟩) = some ⟨.ok (.again (.builtin "map.__new__" ⟨[.type "map", .ref f, .ref l], []⟩)), t, [], n, []⟩ := by kernel_rfl!
end
theorem c_ne {w : World} {A : Around} {a b : Int} {ta tb : Tok} {Q : Value → Shared → Prop} {s : Shared} (x : Q (.bool (a != b)) s) : WP w A (compareOp .NotEq (.int a ta) (.int b tb)) Q s := ne_int x
theorem entry_map_new : entryFor table "map.__new__" = some Builtin.«map.__new__» := entryFor_of_tree (by kernel_rfl)
theorem entry_map_next : entryFor table "map.__next__" = some Builtin.«map.__next__» := entryFor_of_tree (by kernel_rfl)
section
variable {w : World} {A : Around} {gs : Array GenState} {dr : Drawn} {os : OsState} {g h : Heap} {t : Nat} {d u : Nat} {a b c : Value} {L : Addr} {m : Str → Option Value} {news : List (Addr × Obj)}
set_option maxHeartbeats 1000000 in
-- `Match._make(t)`, bound: a new Match object
theorem make_ok {bm q : Addr} {n : Nat} {Q : Value → Shared → Prop} (B : Bs w h) (hA : AOk A d u) (hd : d < recursionLimit) (hb : h.get? bm = some meObj) (ho : h.get? q = some ⟨.type "tuple", none, .seq #[a, b, c] n, #[]⟩)
    (y : ∀ x dd h' t', Ext h h' → h.get? x = none → h'.get? x = some (mObj dd #[a, b, c]) → Q (.ref x) ⟨h', gs, dr, t', os⟩) : WP w A (call (.ref bm) [.ref q]) Q ⟨h, gs, dr, t, os⟩ := by
  have e2 := ma2 pw w.params h.objs.size t bm q
  rw [← table_eq_fast] at e2
  refine wpAny_call (X.x_code ?_)
  refine run_sound (s := ⟨h, gs, dr, t, os⟩) e2 (given_of B (Ext.refl h)) hA.hh rfl rfl ⟨hb, rfl, ?_⟩
  show codeAny (model pw w) A (.call (.ref 96) ⟨[.ref 142, .ref q], []⟩) (fun r s' => match r with | .ok (.ret v) => Q v s' | .ok _ => False | .error e => False) ⟨h, gs, dr, t, os⟩
  refine enterC (vs := [.ref 142, .ref q]) (ns := ns_make) (news := []) h B (Ext.refl h) (Nat.le_refl _) (by simp) (by simp) hA hd ok_make (lk_96 _) (cd_96 _) (.of_eq (by kernel_rfl!)) (by kernel_rfl!) (by kernel_rfl!) (by kernel_rfl!) ?_
  intro h1 t1 H k1
  change WP w _ (execs (bodyOf (me 6 5)) (env_make h.objs.size)) _ _
  have hA1 := hA.deeper (envOf (Str.ofString "Match._make") (scoOf (me 6 5)) h.objs.size 96 (.ref 95))
  generalize A.deeper _ = A1 at hA1 ⊢
  change Hp h h.objs.size h1 (LV ns_make [some (.ref 142), some (.ref q), none]) [] at H
  refine r_cons ?_
  refine r_expr ?_
  (with_reducible refine e_str ?_; intro _ _)
  refine r_cons ?_
  refine r_assign ?_
  refine e_meth ?_
  (with_reducible refine gl_make_tuple ‹_› ‹_› ?_)
  refine run_sound (kf := fun _ => none) (by rw [table_eq_fast]; exact mk7' pw w.params _ _ _) (fun _ _ e => nomatch e) hA1.hh rfl rfl ?_
  refine call_rule ?_
  repeat (first | (with_reducible first|refine ld_make_0 ‹_› ?_|refine ld_make_1 ‹_› ?_) | (with_reducible first|refine sp_cons ?_|refine sp_nil ?_|refine keep_b ?_))
  refine tuple_new (h := h1) B H.F.keep hA1.hh (H.F.keep _ _ ho) fun x dd h3 x1 x2 x3 => ?_
  have H3 := H.add x1 x2 x3
  (with_reducible refine st_make_2 ‹_› ?_); intro h4 t4 H4
  repeat (first | (with_reducible first|refine ld_make_2 ‹_› ?_|refine gl_make_len ‹_› ‹_› ?_) | (with_reducible first|refine t_cmp ?_|refine e_call ?_|refine sp_cons ?_|refine sp_nil ?_|refine r_if ?_|refine r_cons ?_|refine keep_b ?_|refine call_rule ?_))
  have e3 := ma3 pw w.params h4.objs.size ‹Nat› x dd a b c
  rw [← table_eq_fast] at e3
  have mx := H4.at 0 rfl
  refine run_sound (s := ⟨h4, gs, dr, _, os⟩) e3 (given_of B H4.F.keep) hA1.hh rfl rfl ⟨mx, mx, mx, ?_⟩
  show WP w A1 _ _ _
  repeat (first | fail | (with_reducible refine e_int ?_; intro _ _))
  refine c_ne ?_
  refine t_bool ?_
  rw [if_neg (by decide)]
  refine r_nil ?_
  repeat (first | (with_reducible refine ld_make_2 ‹_› ?_) | (with_reducible first|refine r_ret ?_|refine r_cons ?_))
  exact y x dd h4 _ (fun b o e => H4.F.keep b o e) (none_back H.F.keep x2) mx
end
section
variable (p : Program) (P : Params) (n t mp l f tu : Nat)
theorem mb1 (n2 t2 : Nat) : (mapN p P n t l f).map (fun r => run (kfP P) fastT ⟨p, P⟩ 400 none n2 t2 [some (mapObj tu f), some (mapObj tu f), some (mapObj tu f), some (mapObj tu f)] Fin (r.k (.ok (.ret (.ref mp))))) = some (some ⟨.ok (.done (.ret (.ref mp))), t2, [], n2, [.load mp (mapObj tu f), .load mp (mapObj tu f), .load mp (mapObj tu f), .load mp (mapObj tu f)]⟩) := by kernel_rfl!
theorem mb2 : run (kfP P) fastT ⟨p, P⟩ 400 none n t [] (Value × List Value) (Builtin.SmallTypes.newClass "map" ⟨[.type "map", .ref f, .ref l], []⟩) = some ⟨.ok (.type "map", [.ref f, .ref l]), t, [], n, []⟩ := by kernel_rfl!
theorem mb4 : run (kfP P) fastT ⟨p, P⟩ 400 none n t [some (mapObj tu f)] (Option Value) (specialOf (.ref mp) "__next__") = some ⟨.ok (some (.builtin "map.__next__")), t, [], n, [.load mp (mapObj tu f)]⟩ := by kernel_rfl!
theorem mb5 : run (kfP P) fastT ⟨p, P⟩ 400 none n t [] (Value × List Value) (bindSpecial (.builtin "map.__next__") (.ref mp)) = some ⟨.ok (.builtin "map.__next__", [.ref mp]), t, [], n, []⟩ := by kernel_rfl!
theorem mb6 : run (kfP P) fastT ⟨p, P⟩ 400 none n t [some (mapObj tu f)] Fin (callAny (.builtin "map.__next__") ⟨[.ref mp], []⟩) = some ⟨.ok (.again (.builtin "map.__next__" ⟨[.ref mp], []⟩)), t, [], n, [.load mp (mapObj tu f)]⟩ := by kernel_rfl!
theorem mb7 : run (kfP P) fastT ⟨p, P⟩ 400 none n t [some (mapObj tu f)] (Option Value) (specialOf (.ref mp) "__iter__") = some ⟨.ok (some (.builtin "map.__iter__")), t, [], n, [.load mp (mapObj tu f)]⟩ := by kernel_rfl!
theorem mb8 : run (kfP P) fastT ⟨p, P⟩ 400 none n t [] (Value × List Value) (bindSpecial (.builtin "map.__iter__") (.ref mp)) = some ⟨.ok (.builtin "map.__iter__", [.ref mp]), t, [], n, []⟩ := by kernel_rfl!
theorem mb9 : run (kfP P) fastT ⟨p, P⟩ 400 none n t [some (mapObj tu f)] Value (call (.builtin "map.__iter__") [.ref mp]) = some ⟨.ok (.ref mp), t, [], n, [.load mp (mapObj tu f)]⟩ := by kernel_rfl!
theorem mb10 : run (kfP P) fastT ⟨p, P⟩ 400 none n t [some (mapObj tu f), some (mapObj tu f)] Bool (Builtin.List.listLengthHint (.ref mp)) = some ⟨.ok true, t, [], n, [.load mp (mapObj tu f), .load mp (mapObj tu f)]⟩ := by kernel_rfl!
end
section
variable {w : World} {A : Around} {gs : Array GenState} {dr : Drawn} {os : OsState} {g h : Heap} {t : Nat} {d u : Nat} {a b c : Value} {L : Addr} {m : Str → Option Value} {news : List (Addr × Obj)}
theorem map_new {f l : Addr} {items : Array Value} {k : Nat} {Q : Value → Shared → Prop} (B : Bs w g) (hA : AOk A d u) (H : Hp g L h m news) (hl : h.get? l = some (lObj items k))
    (y : ∀ mp tu it oi h', IsLI oi l 0 → Hp g L h' m ((mp, mapObj tu f) :: (tu, tObj [.ref it]) :: (it, oi) :: news) → Q (.ref mp) ⟨h', gs, dr, t, os⟩) : WP w A (call (.type "map") [.ref f, .ref l]) Q ⟨h, gs, dr, t, os⟩ := by
  have e4 := ma4 pw w.params h.objs.size t l f
  rw [← table_eq_fast] at e4
  refine wpAny_call (X.x_code ?_)
  refine run_sound (s := ⟨h, gs, dr, t, os⟩) e4 (given_of B H.F.keep) hA.hh rfl rfl ?_
  refine ⟨Code.quiet_builtin _ (by decide +kernel), ?_⟩
  refine X.x_code ?_
  have e5 := ma5 pw w.params h.objs.size t l f
  cases hr : mapN pw w.params h.objs.size t l f with
  | none => rw [hr] at e5; cases e5
  | some r =>
    rw [hr] at e5
    simp only [Option.map_some, Option.some.injEq, Prod.mk.injEq] at e5
    obtain ⟨e1, e2, e3, e4, e5⟩ := e5
    have hr' := hr
    unfold mapN at hr'
    rw [← table_eq_fast] at hr'
    have hh2 : (A.under (.builtin "type.__call__" ⟨[.type "map", .ref f, .ref l], []⟩)).handled = none := hA.hh
    generalize hT : denote table (.builtin "type.__call__" ⟨[.type "map", .ref f, .ref l], []⟩) = T at hr' ⊢
    generalize A.under (.builtin "type.__call__" ⟨[.type "map", .ref f, .ref l], []⟩) = A2 at hh2 ⊢
    refine runTo_sound (s := ⟨h, gs, dr, t, os⟩) hr' (given_of B H.F.keep) hh2 rfl rfl ?_
    rw [e4, e5]
    show codeAny _ _ _ _ _
    rw [e1]
    have e7 := ma7 pw w.params h.objs.size t l f
    rw [← table_eq_fast] at e7
    refine X.x_code ?_
    have hh3 : ((A2.mark none).under (.call (.builtin "map.__new__") ⟨[.type "map", .ref f, .ref l], []⟩)).handled = none := hh2
    refine run_sound (s := ⟨h, gs, dr, t, os⟩) e7 (given_of B H.F.keep) hh3 rfl rfl ?_
    refine ⟨Code.quiet_builtin _ (by decide +kernel), ?_⟩
    refine codeAny_builtin entry_map_new ?_
    have hh4 : ((A2.mark none).under (.builtin "map.__new__" ⟨[.type "map", .ref f, .ref l], []⟩)).handled = none := hh2
    generalize (A2.mark none).under (.builtin "map.__new__" ⟨[.type "map", .ref f, .ref l], []⟩) = A3 at hh4 ⊢
    have q2 := mb2 pw w.params h.objs.size t l f
    rw [← table_eq_fast] at q2
    refine wpAny_bind (run_sound (s := ⟨h, gs, dr, t, os⟩) q2 (given_of B H.F.keep) hh4 rfl rfl ?_)
    show wpAny _ _ _ _ _ _
    dsimp only
    refine wpAny_bind (wpAny_of_eq (a := ()) rfl ?_)
    rw [if_neg (by simp)]
    refine wpAny_bind ?_
    unfold Builtin.SmallTypes.iterAll
    refine wpAny_bind ?_
    show wpAny _ _ (forIn [(.ref l : Value)] _ _) _ _ _
    rw [List.forIn_cons]
    refine wpAny_bind (wpAny_bind (wpAny_holding (wpAny_pyIter_list (lo_isList hl) ?_)))
    have H1 := H.push { cls := .type "list_iterator", data := .fields #[.ref l, .int 0 0] }
    refine wpAny_pure ?_
    dsimp only
    rw [List.forIn_nil]
    refine wpAny_pure (wpAny_pure ?_)
    refine wpAny_bind (wpAny_newTuple ?_ (by rw [sizeLine_eq]; simp))
    have H2 := H1.push (seqObj "tuple" #[.ref h.objs.size] 0)
    refine wpAny_bind ?_
    show wpAny _ _ (newObj (.type "map") (.fields #[_, _])) _ _ _
    refine wpAny_newObj_type ?_
    have H3 := H2.push { cls := .type "map", data := .fields #[.ref (h.push { cls := .type "list_iterator", data := .fields #[.ref l, .int 0 0] }).objs.size, .ref f] }
    refine wpAny_pure ?_
    have b1 := mb1 pw w.params h.objs.size t ((h.push { cls := .type "list_iterator", data := .fields #[.ref l, .int 0 0] }).push (seqObj "tuple" #[.ref h.objs.size] 0)).objs.size l f (h.push { cls := .type "list_iterator", data := .fields #[.ref l, .int 0 0] }).objs.size (((h.push { cls := .type "list_iterator", data := .fields #[.ref l, .int 0 0] }).push (seqObj "tuple" #[.ref h.objs.size] 0)).push { cls := .type "map", data := .fields #[.ref (h.push { cls := .type "list_iterator", data := .fields #[.ref l, .int 0 0] }).objs.size, .ref f] }).objs.size t
    rw [hr] at b1
    simp only [Option.map_some, Option.some.injEq] at b1
    rw [← table_eq_fast] at b1
    have mm := H3.at 0 rfl
    refine run_sound (s := ⟨(((h.push { cls := .type "list_iterator", data := .fields #[.ref l, .int 0 0] }).push (seqObj "tuple" #[.ref h.objs.size] 0)).push { cls := .type "map", data := .fields #[.ref (h.push { cls := .type "list_iterator", data := .fields #[.ref l, .int 0 0] }).objs.size, .ref f] }), gs, dr, t, os⟩) b1 (given_of B H3.F.keep) hh2 rfl rfl ⟨mm, mm, mm, mm, ?_⟩
    exact y _ _ _ _ _ ⟨rfl, rfl⟩ H3
end
section
variable {w : World} {A : Around} {gs : Array GenState} {dr : Drawn} {os : OsState} {g h : Heap} {t : Nat} {d u : Nat} {a b c : Value} {L : Addr} {m : Str → Option Value} {news : List (Addr × Obj)}
-- a list iterator's step, as a special call
theorem li_item {it l : Addr} {i : Nat} {items : Array Value} {v : Value} {Q : Option Value → Shared → Prop} {E : Value → Shared → Prop} {s : Shared} (hit : s.heap.IsListIter it l i) (hl : s.heap.IsList l items) (hx : items[i]? = some v)
    (y : ∀ h', h'.IsListIter it l (i + 1) → Heap.SameBut it s.heap h' → Q (some v) { s with heap := h' }) : wpAny (model pw w) A (callSpecial? (.ref it) "__next__") Q E s := by
  obtain ⟨o, ho, hc, hd⟩ := id hit
  obtain ⟨ol, hol, _, nl, hdl⟩ := hl
  refine wpAny_callSpecial?_slot (name := Str.ofString "__next__") hit.typeIs slot_listiter_next (wpAny_call_entry slot_listiter_next hit.typeIs entry_listiter_next ?_ (args_listiter_next _))
  show wpAny _ _ (field (.ref it) 0 >>= _) _ _ s
  refine wpAny_bind (wpAny_field ho hd (x := .ref l) rfl ?_)
  show wpAny _ _ (if (Value.ref l == Value.none) = true then _ else _) _ _ s
  rw [if_neg (show ¬ ((Value.ref l == Value.none) = true) from Bool.false_ne_true)]
  show wpAny _ _ (field (.ref it) 1 >>= _) _ _ s
  refine wpAny_bind (wpAny_field ho hd (x := .int i 0) rfl ?_)
  show wpAny _ _ (seqItems? (.ref l) >>= _) _ _ s
  refine wpAny_bind (wpAny_seqItems hol hdl ?_)
  simp only [Int.toNat_natCast, hx]
  refine wpAny_bind (wpAny_setField ho hd (by simp) (wpAny_pure ⟨v, rfl, y _ ?_ (Heap.SameBut.update ..)⟩))
  exact ⟨_, Heap.get?_update_self _ ho (Obj.isFreed_of_fields (Obj.data_mapFields hd _)), (Obj.cls_mapFields ..).trans hc, by
    rw [Obj.data_mapFields hd]; simp [rawInt]⟩
theorem map_open {mp tu it bm : Addr} {rest : List (Addr × Obj)} {oi : Obj} {Q : Option Value → Shared → Prop} (B : Bs w g) (hh : A.handled = none) (H : Hp g L h m ((mp, mapObj tu bm) :: (tu, tObj [.ref it]) :: (it, oi) :: rest))
    (y : ∀ A1 : Around, A1.handled = none → A1.depth ≤ A.depth → A1.units ≤ A.units + 10 → wpAny (model pw w) A1 (Builtin.SmallTypes.nextOf (.ref it)) (fun v s1 => s1.heap.get? mp = some (mapObj tu bm) ∧ WP w A1 (call (.ref bm) [v]) (fun r s2 => Q (some r) s2) s1) (fun e s1 => wpAny (model pw w) A (do if ← isInstance e (.type "StopIteration") then pure none else throw e : Sem (Option Value)) Q (fun _ _ => False) s1) ⟨h, gs, dr, t, os⟩) :
    WP w A (pyNext (.ref mp)) Q ⟨h, gs, dr, t, os⟩ := by
  have gv := given_of B H.F.keep
  have hm := H.at 0 rfl
  have htu := H.at 1 rfl
  have e4 := mb4 pw w.params h.objs.size t mp bm tu
  have e5 := mb5 pw w.params h.objs.size t mp
  have e6 := mb6 pw w.params h.objs.size t mp bm tu
  rw [← table_eq_fast] at e4 e5 e6
  unfold pyNext
  refine wpAny_bind (wpAny_attempt ?_)
  unfold callSpecial?
  refine wpAny_bind (run_sound (s := ⟨h, gs, dr, t, os⟩) e4 gv hh rfl rfl ⟨hm, ?_⟩)
  show wpAny _ _ _ _ _ _
  dsimp only
  refine wpAny_holding ?_
  refine wpAny_bind (run_sound (s := ⟨h, gs, dr, t, os⟩) e5 gv hh rfl rfl ?_)
  show wpAny _ _ _ _ _ _
  dsimp only
  refine wpAny_bind (wpAny_call (X.x_code (run_sound (s := ⟨h, gs, dr, t, os⟩) e6 gv hh rfl rfl ⟨hm, ?_⟩)))
  refine ⟨Code.quiet_builtin _ (by decide +kernel), codeAny_builtin entry_map_next ?_⟩
  have hA1 : (A.under (.builtin "map.__next__" ⟨[.ref mp], []⟩)).handled = none := hh
  have hA2 : (A.under (.builtin "map.__next__" ⟨[.ref mp], []⟩)).depth ≤ A.depth := Nat.le_refl _
  have hA3 : (A.under (.builtin "map.__next__" ⟨[.ref mp], []⟩)).units ≤ A.units + 10 := Nat.add_le_add_left (Nat.le_of_ble_eq_true (by kernel_rfl!)) _
  generalize A.under (.builtin "map.__next__" ⟨[.ref mp], []⟩) = A1 at hA1 hA2 hA3 ⊢
  refine wpAny_bind (wpAny_of_eq (a := (.ref mp, [])) rfl ?_)
  dsimp only
  refine wpAny_bind (wpAny_field hm rfl (x := .ref tu) rfl ?_)
  refine wpAny_bind (wpAny_seqItems htu rfl ?_)
  dsimp only
  refine wpAny_bind ?_
  rw [← Array.forIn_toList]
  show wpAny _ _ (forIn [(.ref it : Value)] _ _) _ _ _
  rw [List.forIn_cons]
  refine wpAny_bind (wpAny_bind (wpAny_holding ?_))
  refine wpAny_mono (y A1 hA1 hA2 hA3) (fun v s1 z => ?_) (fun e s1 z => z)
  obtain ⟨hm1, z⟩ := z
  refine wpAny_pure ?_
  dsimp only
  rw [List.forIn_nil]
  refine wpAny_pure ?_
  refine wpAny_bind (wpAny_field hm1 rfl (x := .ref bm) rfl ?_)
  refine wpAny_bind (wpAny_holding (wpAny_mono z (fun r s2 z => ?_) fun _ _ e => e.elim))
  refine wpAny_bind (wpAny_letGo (wpAny_pure (wpAny_pure (wpAny_pure z))))
theorem li_end {it l : Addr} {i : Nat} {items : Array Value} {Q : Option Value → Shared → Prop} {E : Value → Shared → Prop} {s : Shared} (hh : A.handled = none) (hit : s.heap.IsListIter it l i) (hl : s.heap.IsList l items) (hx : items[i]? = none)
    (y : ∀ e h', Heap.ExtBut it s.heap h' → ({ s with heap := h' } : Shared).TypeIs e "StopIteration" → E e { s with heap := h' }) : wpAny (model pw w) A (callSpecial? (.ref it) "__next__") Q E s := by
  obtain ⟨o, ho, hc, hd⟩ := id hit
  obtain ⟨ol, hol, _, nl, hdl⟩ := hl
  refine wpAny_callSpecial?_slot (name := Str.ofString "__next__") hit.typeIs slot_listiter_next (wpAny_call_entry slot_listiter_next hit.typeIs entry_listiter_next ?_ (args_listiter_next _))
  show wpAny _ _ (field (.ref it) 0 >>= _) _ _ s
  refine wpAny_bind (wpAny_field ho hd (x := .ref l) rfl ?_)
  show wpAny _ _ (if (Value.ref l == Value.none) = true then _ else _) _ _ s
  rw [if_neg (show ¬ ((Value.ref l == Value.none) = true) from Bool.false_ne_true)]
  show wpAny _ _ (field (.ref it) 1 >>= _) _ _ s
  refine wpAny_bind (wpAny_field ho hd (x := .int i 0) rfl ?_)
  show wpAny _ _ (seqItems? (.ref l) >>= _) _ _ s
  refine wpAny_bind (wpAny_seqItems hol hdl ?_)
  simp only [Int.toNat_natCast, hx]
  refine wpAny_bind (wpAny_rule (wpAny_bind (wpAny_setField ho hd (by simp) ?_)))
  show wpAny _ _ (newExc (.type "StopIteration") [] >>= _) _ _ _
  refine wpAny_bind ?_
  simp only [newExc, newTuple]
  refine wpAny_bind (wpAny_newObj_type ?_ (by size_fits))
  refine wpAny_bind (m := firstArgMember _ _) (wpAny_of_eq (a := Value.none) (by first | rfl | (simp only [firstArgMember]; rfl)) ?_)
  refine wpAny_newObj_type ?_ (by size_fits)
  simp only [raiseNew]
  refine wpAny_bind (wpAny_handled ?_)
  first | rw [show A.in1.handled = none from hh] | rw [hh]
  refine wpAny_bind (wpAny_pure (wpAny_throw ?_))
  exact y _ _ (((Heap.SameBut.update ..).extBut.push _).push _) ⟨_, Heap.get?_push_size _ rfl, rfl⟩
theorem map_item {mp tu it bm l q : Addr} {rest : List (Addr × Obj)} {oi : Obj} {i k n : Nat} {items : Array Value} {Q : Option Value → Shared → Prop} (B : Bs w g) (hA : AOk A d u) (hd : d < recursionLimit) (H : Hp g L h m ((mp, mapObj tu bm) :: (tu, tObj [.ref it]) :: (it, oi) :: rest))
    (hbm : (bm, meObj) ∈ rest) (hl : (l, lObj items k) ∈ rest) (hi : IsLI oi l i) (hx : items[i]? = some (.ref q)) (hq : (q, (⟨.type "tuple", none, .seq #[a, b, c] n, #[]⟩ : Obj)) ∈ rest)
    (y : ∀ x dd h' t' oi', IsLI oi' l (i + 1) → Hp g L h' m ((mp, mapObj tu bm) :: (tu, tObj [.ref it]) :: (it, oi') :: (x, mObj dd #[a, b, c]) :: rest) → Q (some (.ref x)) ⟨h', gs, dr, t', os⟩) : WP w A (pyNext (.ref mp)) Q ⟨h, gs, dr, t, os⟩ := by
  refine map_open B hA.hh H fun A1 h1 h2 h3 => ?_
  unfold Builtin.SmallTypes.nextOf
  refine wpAny_bind (li_item ⟨oi, H.at 2 rfl, hi.1, hi.2⟩ (lo_isList (H.mem (in3 hl))) hx fun h' i' sb => ?_)
  obtain ⟨oi', q1, q2⟩ := i'
  have H' := H.put 2 rfl sb q1
  dsimp only [List.set] at H'
  refine wpAny_pure ⟨H'.at 0 rfl, ?_⟩
  refine make_ok (d := d) (u := A1.units) (B.keeps H'.F.keep) ⟨h1, Nat.le_trans h2 hA.hd, Nat.le_refl _⟩ hd (H'.mem (in3 hbm)) (H'.mem (in3 hq)) fun x dd h2' t2 x1 x2 x3 => ?_
  exact y x dd h2' t2 oi' q2 (H'.add x1 x2 x3).sink3
theorem map_end {mp tu it bm l : Addr} {rest : List (Addr × Obj)} {oi : Obj} {i k : Nat} {items : Array Value} {Q : Option Value → Shared → Prop} (B : Bs w g) (hA : AOk A d u) (H : Hp g L h m ((mp, mapObj tu bm) :: (tu, tObj [.ref it]) :: (it, oi) :: rest))
    (hl : (l, lObj items k) ∈ rest) (hi : IsLI oi l i) (hx : items[i]? = none)
    (y : ∀ h', Hp g L h' m rest → Q none ⟨h', gs, dr, t, os⟩) : WP w A (pyNext (.ref mp)) Q ⟨h, gs, dr, t, os⟩ := by
  refine map_open B hA.hh H fun A1 h1 h2 h3 => ?_
  unfold Builtin.SmallTypes.nextOf
  refine wpAny_bind (li_end h1 ⟨oi, H.at 2 rfl, hi.1, hi.2⟩ (lo_isList (H.mem (in3 hl))) hx fun e h' eb ty => ?_)
  refine wpAny_bind (wpAny_isInstance (T := "StopIteration") (b := true) ty isSubtype_stop ?_)
  have H' := H.lose 2 rfl fun b o hb q => eb b o hb q
  exact wpAny_pure (y h' (H'.skip 2))
-- the list's items are held tuples of three
inductive Tus (rest : List (Addr × Obj)) : List Value → List Bk → Prop
  | nil : Tus rest [] []
  | cons {x : Addr} {b : Bk} {vs : List Value} {bs : List Bk} {t1 t2 t3 : Tok} : (x, tObj [.int (b.1 : Nat) t1, .int (b.2.1 : Nat) t2, .int (b.2.2 : Nat) t3]) ∈ rest → Tus rest vs bs → Tus rest (.ref x :: vs) (b :: bs)
theorem Tus.mono {r r' : List (Addr × Obj)} {vs : List Value} {bs : List Bk} (h : ∀ p ∈ r, p ∈ r') (m : Tus r vs bs) : Tus r' vs bs := by
  induction m with
  | nil => exact .nil
  | cons a _ ih => exact .cons (h _ a) ih
theorem Tus.snoc {r : List (Addr × Obj)} {vs : List Value} {bs : List Bk} {x : Addr} {b : Bk} {t1 t2 t3 : Tok} (m : Tus r vs bs) (hx : (x, tObj [.int (b.1 : Nat) t1, .int (b.2.1 : Nat) t2, .int (b.2.2 : Nat) t3]) ∈ r) : Tus r (vs ++ [.ref x]) (bs ++ [b]) := by
  induction m with
  | nil => exact .cons hx .nil
  | cons a _ ih => exact .cons a ih
theorem Tus.length {r : List (Addr × Obj)} {vs : List Value} {bs : List Bk} (m : Tus r vs bs) : vs.length = bs.length := by
  induction m with
  | nil => rfl
  | cons a _ ih => simp [ih]
theorem mp4 {α : Type} (x1 x2 x3 x4 x5 : α) (r : List α) : (x1 :: x2 :: x3 :: x4 :: x5 :: r).Perm (x1 :: x2 :: x3 :: x5 :: x4 :: r) := .cons _ (.cons _ (.cons _ (.swap _ _ _)))
theorem ext_loop {mp tu it bm l S : Addr} {k : Nat} {res : Value} {R : Result → Shared → Prop} (B : Bs w g) (hA : AOk A d u) (hd : d < recursionLimit) (all : List Value) : ∀ (todo : List Value) (bt : List Bk) (done acc : List Value) (bd : List Bk) (rest : List (Addr × Obj)) (oi : Obj) (h : Heap) (t ka : Nat),
    all = done ++ todo → all.length ≤ 100 → (bm, meObj) ∈ rest → (l, lObj all.toArray k) ∈ rest → IsLI oi l done.length → Tus rest todo bt → Mos rest acc bd → acc.length = done.length →
    Hp g L h m ((mp, mapObj tu bm) :: (tu, tObj [.ref it]) :: (it, oi) :: (S, lObj acc.toArray ka) :: rest) →
    (∀ h' t' acc' k' rest', Hp g L h' m ((S, lObj acc'.toArray k') :: rest') → Mos rest' acc' (bd ++ bt) → (∀ p ∈ rest, p ∈ rest') → R (.ok (.ret res)) ⟨h', gs, dr, t', os⟩) →
    codeAny (model pw w) A (.builtin "list.extend.loop" ⟨[.ref S, .ref mp, res], []⟩) R ⟨h, gs, dr, t, os⟩
  | [], bt, done, acc, bd, rest, oi, h, t, ka, e, hl100, hbm, hl, hi, T, M, hlen, H, y => by
    cases T
    refine codeAny_builtin F.entry_extend_loop ?_
    rw [Around.under_plainId F.plain_extend_loop _]
    show wpAny _ A.in1 (pyNext (.ref mp) >>= _) _ _ _
    refine wpAny_bind (wpAny_mono (map_end B hA.in1 H (.tail _ hl) hi (by rw [e]; simp) fun h' H' => ?_) (fun _ _ z => z) fun _ _ z => z.elim)
    refine wpAny_pure (y h' _ acc ka rest H' (by simpa using M) fun p hp => hp)
  | v :: todo, bt, done, acc, bd, rest, oi, h, t, ka, e, hl100, hbm, hl, hi, T, M, hlen, H, y => by
    cases T with
    | @cons x b _ bs t1 t2 t3 hx T =>
    refine codeAny_builtin F.entry_extend_loop ?_
    rw [Around.under_plainId F.plain_extend_loop _]
    show wpAny _ A.in1 (pyNext (.ref mp) >>= _) _ _ _
    refine wpAny_bind (wpAny_mono (map_item (i := done.length) (q := x) B hA.in1 hd H (.tail _ hbm) (.tail _ hl) hi (by rw [e]; simp) (.tail _ hx) fun x' dd h1 t1' oi' hi' H1 => ?_) (fun _ _ z => z) fun _ _ z => z.elim)
    show wpAny _ A.in1 (updateSeq S (·.push (.ref x')) >>= _) _ _ _
    have hsz : acc.toArray.size ≤ 100 := by have := congrArg List.length e; simp at this ⊢; (first|lia|omega)
    refine wpAny_bind (wpAny_updateSeq (H1.at 4 rfl) rfl ?_ (by rw [sizeLine_eq]; (first|lia|omega)) (by rw [sizeLine_eq]; simp; simp at hsz; (first|lia|omega)))
    have H2 := H1.upd 4 rfl (Obj.mapSeq fun xs => xs.push (.ref x'))
    rw [lo_push, List.push_toArray] at H2
    have H3 := H2.perm (mp4 _ _ _ _ _ _)
    refine wpAny_pure ⟨plainId_quiet F.plain_extend_loop _, ?_⟩
    refine ext_loop B hA hd all todo bs (done ++ [.ref x]) (acc ++ [.ref x']) (bd ++ [b]) _ oi' _ _ _ (by rw [e]; simp) hl100 (.tail _ hbm) (.tail _ hl) (by simpa using hi') (T.mono fun p hp => .tail _ hp) ((M.mono fun p hp => .tail _ hp).snoc (.head _) ⟨_, _, _, _, rfl⟩) (by simp [hlen]) H3 ?_
    intro h' t' acc' k' rest' H' M' sub
    exact y h' t' acc' k' rest' H' (by simpa using M') fun p hp => sub p (.tail _ hp)
end
section
variable {w : World} {A : Around} {gs : Array GenState} {dr : Drawn} {os : OsState} {g h : Heap} {t : Nat} {d u : Nat} {L : Addr} {m : Str → Option Value}
theorem it_map {mp tu bm : Addr} {Q : Value → Shared → Prop} (B : Bs w g) (k : Ext g h) (hh : A.handled = none) (hm : h.get? mp = some (mapObj tu bm)) (y : Q (.ref mp) ⟨h, gs, dr, t, os⟩) : WP w A (pyIter (.ref mp)) Q ⟨h, gs, dr, t, os⟩ := by
  have gv := given_of B k
  have e2 := mb7 pw w.params h.objs.size t mp bm tu
  have e3 := mb8 pw w.params h.objs.size t mp
  have e4 := mb9 pw w.params h.objs.size t mp bm tu
  have e5 := mb4 pw w.params h.objs.size t mp bm tu
  rw [← table_eq_fast] at e2 e3 e4 e5
  unfold pyIter
  refine wpAny_bind (run_sound (s := ⟨h, gs, dr, t, os⟩) e2 gv hh rfl rfl ⟨hm, ?_⟩)
  show wpAny _ _ _ _ _ _
  dsimp only
  refine wpAny_bind ?_
  unfold callSpecialIfBoundUnlessNone?
  refine wpAny_holding (wpAny_bind (bsb (f := .builtin "map.__iter__") (run_sound (s := ⟨h, gs, dr, t, os⟩) e2 gv hh rfl rfl ⟨hm, rfl, rfl⟩) (run_sound (s := ⟨h, gs, dr, t, os⟩) e3 gv hh rfl rfl ⟨rfl, rfl⟩) ?_))
  dsimp only
  rw [if_neg (by decide)]
  refine wpAny_bind (run_sound (s := ⟨h, gs, dr, t, os⟩) e4 gv hh rfl rfl ⟨hm, wpAny_pure ?_⟩)
  dsimp only
  refine wpAny_bind (run_sound (s := ⟨h, gs, dr, t, os⟩) e5 gv hh rfl rfl ⟨hm, ?_⟩)
  exact wpAny_pure y
theorem list_map {mp tu it bm l : Addr} {k : Nat} {oi : Obj} {vs : List Value} {bs : List Bk} {rest : List (Addr × Obj)} {Q : Value → Shared → Prop} (B : Bs w g) (hA : AOk A d u) (hd : d < recursionLimit)
    (H : Hp g L h m ((mp, mapObj tu bm) :: (tu, tObj [.ref it]) :: (it, oi) :: rest)) (hbm : (bm, meObj) ∈ rest) (hl : (l, lObj vs.toArray k) ∈ rest) (hi : IsLI oi l 0) (T : Tus rest vs bs) (h100 : vs.length ≤ 100)
    (y : ∀ S h' t' acc k' rest', Hp g L h' m ((S, lObj acc.toArray k') :: rest') → Mos rest' acc bs → (∀ p ∈ rest, p ∈ rest') → Q (.ref S) ⟨h', gs, dr, t', os⟩) : WP w A (call (.type "list") [.ref mp]) Q ⟨h, gs, dr, t, os⟩ := by
  refine callType_codes (Q₁ := fun obj s₁ => obj = .ref h.objs.size ∧ s₁ = ⟨h.push { cls := .type "list", data := .seq #[] }, gs, dr, t, os⟩) F.called_list (F.typeCall_list_1 _) F.entry_list_init
    (code_list_new (s := ⟨h, gs, dr, t, os⟩) _ ⟨rfl, rfl⟩) fun obj s₁ h₁ => ?_
  obtain ⟨rfl, rfl⟩ := h₁
  have hS : (h.push { cls := .type "list", data := .seq #[] }).get? h.objs.size = some { cls := .type "list", data := .seq #[] } := Heap.get?_push_size _ rfl
  have H1 := H.push { cls := .type "list", data := .seq #[] }
  generalize hSe : h.objs.size = S at hS H1 ⊢
  generalize h.push { cls := .type "list", data := .seq #[] } = h1 at hS H1 ⊢
  refine ⟨⟨_, hS, rfl⟩, F.args_list_init_2 _ _, ?_⟩
  show wpAny _ A.in1.in1 (do let old ← Builtin.List.listItems (.ref S); Builtin.List.listUpdate (.ref S) (fun _ => #[]); letGo old.toList.reverse; Builtin.List.listExtendWith (.ref S) (.ref mp) .none) _ _ _
  refine wpAny_bind (listItems_at hS rfl ?_)
  refine wpAny_bind (listUpdate_at hS rfl ?_ (Nat.zero_le _) (by simp))
  have H2 := H1.upd 0 rfl (Obj.mapSeq fun _ => #[])
  obtain ⟨e1, he1⟩ : ∃ e, Obj.mapSeq (fun _ => #[]) ({ cls := .type "list", data := .seq #[] } : Obj) = lObj #[] e := ⟨_, rfl⟩
  rw [he1] at H2
  dsimp only [List.set] at H2
  refine wpAny_bind (wpAny_letGo ?_)
  generalize h1.update S (Obj.mapSeq fun _ => #[]) = h2 at H2
  have hm := H2.at 1 rfl
  unfold Builtin.List.listExtendWith
  refine wpAny_bind (wpAny_typeOf (T := "map") ⟨_, hm, rfl⟩ ?_)
  have hne : S ≠ mp := H2.ne2 0 1 (by decide) rfl rfl
  have s1 : Builtin.List.listSameRef (.ref S) (.ref mp) = false := by simp [Builtin.List.listSameRef, hne]
  have s2 : (Value.type "map" == Value.type "list") = false := by decide
  have s3 : (Value.type "map" == Value.type "tuple") = false := by decide
  simp only [s1, s2, s3, Bool.or_false, Bool.false_eq_true, if_false]
  have hA1 := hA.in1
  have hA2 := hA1.in1
  refine wpAny_bind (wpAny_mono (it_map B H2.F.keep hA2.hh hm ?_) (fun _ _ z => z) fun _ _ z => z.elim)
  have b10 := mb10 pw w.params h2.objs.size t mp bm tu
  rw [← table_eq_fast] at b10
  refine wpAny_bind (wpAny_holding (run_sound (s := ⟨h2, gs, dr, t, os⟩) b10 (given_of B H2.F.keep) hA2.hh rfl rfl ⟨hm, hm, ?_⟩))
  show wpAny _ _ _ _ _ _
  simp only [Bool.true_or, if_true]
  refine wpAny_bind (wpAny_rule ?_)
  refine wpAny_bind ?_
  show wpAny _ _ (updateSeq S (·.push .none) >>= fun _ => updateSeq S (·.pop)) _ _ _
  refine wpAny_bind (wpAny_updateSeq (H2.at 0 rfl) rfl ?_ (Nat.zero_le _) (by rw [sizeLine_eq]; simp))
  have H3 := H2.upd 0 rfl (Obj.mapSeq (·.push Value.none))
  obtain ⟨e2, he2⟩ : ∃ e, Obj.mapSeq (·.push Value.none) (lObj #[] e1) = lObj #[.none] e := ⟨_, rfl⟩
  rw [he2] at H3
  dsimp only [List.set] at H3
  refine wpAny_updateSeq (H3.at 0 rfl) rfl ?_ (by rw [sizeLine_eq]; simp) (by simp)
  have H4 := H3.upd 0 rfl (Obj.mapSeq (·.pop))
  obtain ⟨e3, he3⟩ : ∃ e, Obj.mapSeq (·.pop) (lObj #[.none] e2) = lObj #[] e := ⟨_, rfl⟩
  rw [he3] at H4
  dsimp only [List.set] at H4
  refine wpAny_pure ⟨plainId_quiet F.plain_extend_loop _, ?_⟩
  refine ext_loop B hA1 hd vs vs bs [] [] [] rest oi _ _ e3 rfl h100 hbm hl hi T .nil rfl H4.sink3 ?_
  intro h' t' acc' k' rest' H' M' sub
  exact ⟨rfl, y S h' t' acc' k' rest' H' (by simpa using M') sub⟩
end
section
variable {w : World} {A : Around} {gs : Array GenState} {dr : Drawn} {os : OsState} {g h : Heap} {t : Nat} {d u : Nat} {L : Addr} {m : Str → Option Value} {env : Env} {news : List (Addr × Obj)} {qual : Str} {sc : Scope} {f : Addr} {cd : Value} {ns : List String} {vs : List (Option Value)} {n : String} {pos : Pos} {v : Value}
theorem for_invT {target : Expr} {body : List Stmt} {it : Value} {Q : Flow → Shared → Prop} {s : Shared} (I : Nat → Shared → Prop)
    (turn : ∀ n s (C : Shared → Prop), (∀ m s₃, m < n → I m s₃ → C s₃) → I n s → WP w A (pyNext it) (fun r s₁ => match r with
      | none => Q .next s₁
      | some v => WP w A (letOwnedTupleGo target it v) (fun _ s₁ => WP w A (assign target env v) (fun _ s₂ => WP w A (execs body env) (Turn C (fun s₃ => Q .next s₃) Q) s₂) s₁) s₁) s)
    (n : Nat) (h : I n s) : ForK w A env target body it Q s := by
  unfold ForK
  refine codeAny_forLoop_any I (fun n s hI => ?_) n h
  refine wpAny_mono (turn n s (fun s₃ => ∃ m, m < n ∧ I m s₃) (fun m s₃ lt x => ⟨m, lt, x⟩) hI) (fun r s₁ y => ?_) (fun _ _ e => e.elim)
  cases r with
  | none => exact wpAny_execs_nil y
  | some v =>
    dsimp only at y ⊢
    refine wpAny_mono y (fun _ s₁ y => ?_) (fun _ _ e => e.elim)
    refine (wpAny_mono y (fun _ s₂ y => wpAny_mono y (fun f s₃ y => ?_) (fun _ _ e => e.elim)) (fun _ _ e => e.elim))
    cases f <;> exact y
theorem go_li {elts : List Expr} {k : Nat} {p : Pos} {it l : Addr} {o : Obj} {v : Value} {i : Nat} {Q : Unit → Shared → Prop} (e : h.get? it = some o) (hi : IsLI o l i) (y : Q () ⟨h, gs, dr, t, os⟩) : WP w A (letOwnedTupleGo (.Tuple elts k p) (.ref it) v) Q ⟨h, gs, dr, t, os⟩ := by
  obtain ⟨c, d⟩ := hi
  cases v <;> first | exact wpAny_pure y | skip
  rename_i a
  show wpAny _ _ (load it >>= _) _ _ _
  refine wpAny_bind (wpAny_load e ?_)
  rw [c, d]
  dsimp only
  rw [show (["enumerate", "zip", "dict_itemiterator", "dict_reverseitemiterator", "odict_iterator", "itertools.zip_longest", "itertools.pairwise"].contains "list_iterator") = false by decide]
  rw [Bool.false_and, if_neg (by decide)]
  exact wpAny_pure y
theorem ldN_of {Q : Value → Shared → Prop} (ok : NamesOk ns sc) (H : Hp g L h (LV ns vs) news) (i : Nat) (h1 : ns[i]? = some n) (h2 : vs[i]? = some (some v)) (y : Q v ⟨h, gs, dr, t, os⟩) :
    WP w A (loadName (envOf qual sc L f cd) (Str.ofString n)) Q ⟨h, gs, dr, t, os⟩ :=
  wpAny_loadName_local (m := LV ns vs) ok.kind (ok.at (List.mem_of_getElem? h1)).1 H.F.ns (LV_get i ok.nodup h1 h2) y
theorem r_aug {x : Str} {p pos : Pos} {op : Operator} {value : Expr} {P : Shared → Prop} {Q : Flow → Shared → Prop} {s : Shared} (y : WP w A (loadName env x) (fun old s₁ => WP w A (eval value env) (fun v s₂ => WP w A (inplaceOp op old v) (fun r s₃ => WP w A (storeName env x r) (fun _ s₄ => P s₄) s₃) s₂) s₁) s) :
    WP w A (exec (.AugAssign (.Name x p) op value pos) env) (Seq P Q) s := wpAny_AugAssign_Name y
theorem r_three {t₁ t₂ t₃ value : Expr} {pos : Pos} {P : Shared → Prop} {Q : Flow → Shared → Prop} {s : Shared} (y : WP w A (eval value env) (fun v s₁ => WP w A (assign t₁ env v) (fun _ s₂ => WP w A (assign t₂ env v) (fun _ s₃ => WP w A (assign t₃ env v) (fun _ s₄ => P s₄) s₃) s₂) s₁) s)
    (he : (assignEach [t₁, t₂, t₃] env).map (·.2) = [assign t₁ env, assign t₂ env, assign t₃ env] := by with_unfolding_all rfl) (hw : swappedStores [t₁, t₂, t₃] value env = pure none := by with_unfolding_all rfl) :
    WP w A (exec (.Assign [t₁, t₂, t₃] value pos) env) (Seq P Q) s := wpAny_Assign_three y he hw
end
-- the merging of adjacent blocks
noncomputable def mstep (c : Bk) (na : List Bk) (b : Bk) : Bk × List Bk := if c.1 + c.2.2 = b.1 ∧ c.2.1 + c.2.2 = b.2.1 then ((c.1, c.2.1, c.2.2 + b.2.2), na) else (b, if c.2.2 ≠ 0 then na ++ [c] else na)
noncomputable def merge (c : Bk) (na : List Bk) : List Bk → Bk × List Bk
  | [] => (c, na)
  | b :: bs => merge (mstep c na b).1 (mstep c na b).2 bs
noncomputable def closeM (x : Bk × List Bk) : List Bk := if x.1.2.2 ≠ 0 then x.2 ++ [x.1] else x.2
-- the matching blocks, out of the sorted matches
noncomputable def blocksOf (bs : List Bk) (la lb : Nat) : List Bk := closeM (merge (0, 0, 0) [] bs) ++ [(la, lb, 0)]
noncomputable def forB : List Stmt := loopB (nthS (bodyOf (me 8 7)) 9)
noncomputable def forT : Expr := match nthS (bodyOf (me 8 7)) 9 with | .For t .. => t | _ => .Constant .none 0 default
noncomputable def elseB : List Stmt := match nthS forB 0 with | .If _ _ e _ => e | _ => []
noncomputable def MI (w : World) (gs : Array GenState) (dr : Drawn) (os : OsState) (g : Heap) (L : Addr) (la lb : Nat) (dm MB NA it : Addr) (od : Obj) (tla tlb : Tok) (bs : List Bk) (v0 v3 v5 v6 v7 v8 v9 v10 v11 v12 : Option Value) (n : Nat) (s : Shared) : Prop :=
  ∃ (h : Heap) (t x : Nat) (c : Bk) (na : List Bk) (ms nas : List Value) (km kn : Nat) (oi : Obj) (rest : List (Addr × Obj)) (t1 t2 t3 : Tok) (v17 v18 v19 : Option Value), s = ⟨h, gs, dr, t, os⟩ ∧ n = bs.length - x ∧ x ≤ bs.length ∧
    Hp g L h (LV ns_gmb [v0, some (.int (la : Nat) tla), some (.int (lb : Nat) tlb), v3, some (.ref MB), v5, v6, v7, v8, v9, v10, v11, v12, some (.int (c.1 : Nat) t1), some (.int (c.2.1 : Nat) t2), some (.int (c.2.2 : Nat) t3), some (.ref NA), v17, v18, v19])
      ((it, oi) :: (NA, lObj nas.toArray kn) :: (MB, lObj ms.toArray km) :: (dm, od) :: rest) ∧
    IsLI oi MB x ∧ Mos rest ms bs ∧ Tus rest nas na ∧ nas.length ≤ x ∧ merge c na (bs.drop x) = merge (0, 0, 0) [] bs
theorem MI.mk {w : World} {gs : Array GenState} {dr : Drawn} {os : OsState} {g : Heap} {L : Addr} {la lb : Nat} {dm MB NA it : Addr} {od : Obj} {tla tlb : Tok} {bs : List Bk} {v0 v3 v5 v6 v7 v8 v9 v10 v11 v12 : Option Value} {n : Nat} {h : Heap} {t : Nat} {c : Bk} {na : List Bk} {ms nas : List Value} {km kn : Nat} {oi : Obj} {rest : List (Addr × Obj)} {t1 t2 t3 : Tok} {v17 v18 v19 : Option Value} (x : Nat) (p0 : n = bs.length - x) (p1 : x ≤ bs.length) (p2 : Hp g L h (LV ns_gmb [v0, some (.int (la : Nat) tla), some (.int (lb : Nat) tlb), v3, some (.ref MB), v5, v6, v7, v8, v9, v10, v11, v12, some (.int (c.1 : Nat) t1), some (.int (c.2.1 : Nat) t2), some (.int (c.2.2 : Nat) t3), some (.ref NA), v17, v18, v19]) ((it, oi) :: (NA, lObj nas.toArray kn) :: (MB, lObj ms.toArray km) :: (dm, od) :: rest)) (p3 : IsLI oi MB x) (p4 : Mos rest ms bs) (p5 : Tus rest nas na) (p6 : nas.length ≤ x) (p7 : merge c na (bs.drop x) = merge (0, 0, 0) [] bs) : MI w gs dr os g L la lb dm MB NA it od tla tlb bs v0 v3 v5 v6 v7 v8 v9 v10 v11 v12 n ⟨h, gs, dr, t, os⟩ :=
  ⟨h, t, x, c, na, ms, nas, km, kn, oi, rest, t1, t2, t3, v17, v18, v19, rfl, p0, p1, p2, p3, p4, p5, p6, p7⟩
theorem mp5 {α : Type} (x1 x2 x3 x4 x5 : α) (r : List α) : (x1 :: x2 :: x3 :: x4 :: x5 :: r).Perm (x2 :: x3 :: x4 :: x5 :: x1 :: r) := by
  have := (List.perm_middle (a := x1) (l₁ := [x2, x3, x4, x5]) (l₂ := r)).symm
  simpa using this
theorem Mos.get {r : List (Addr × Obj)} {vs : List Value} {bs : List Bk} (m : Mos r vs bs) {x : Nat} {b : Bk} (e : bs[x]? = some b) : ∃ a o, vs[x]? = some (.ref a) ∧ (a, o) ∈ r ∧ IsMo o b := by
  induction m generalizing x with
  | nil => simp at e
  | cons h1 h2 _ ih => cases x with
    | zero => simp at e; subst e; exact ⟨_, _, by simp, h1, h2⟩
    | succ x => simpa using ih (by simpa using e)
section
variable {w : World} {A : Around} {gs : Array GenState} {dr : Drawn} {os : OsState} {g : Heap} {L : Addr} {d u : Nat}
set_option maxHeartbeats 4000000 in
theorem merge_ok {la lb : Nat} {dm MB NA it : Addr} {od : Obj} {tla tlb : Tok} {bs : List Bk} {v0 v3 v5 v6 v7 v8 v9 v10 v11 v12 : Option Value} {Q : Flow → Shared → Prop} {s : Shared}
    (B : Bs w g) (hA : AOk A d u) (h100 : bs.length ≤ 100) (I0 : MI w gs dr os g L la lb dm MB NA it od tla tlb bs v0 v3 v5 v6 v7 v8 v9 v10 v11 v12 bs.length s)
    (y : ∀ (h : Heap) (t : Nat) (c : Bk) (na : List Bk) (ms nas : List Value) (km kn : Nat) (rest : List (Addr × Obj)) (t1 t2 t3 : Tok) (v17 v18 v19 : Option Value),
      Hp g L h (LV ns_gmb [v0, some (.int (la : Nat) tla), some (.int (lb : Nat) tlb), v3, some (.ref MB), v5, v6, v7, v8, v9, v10, v11, v12, some (.int (c.1 : Nat) t1), some (.int (c.2.1 : Nat) t2), some (.int (c.2.2 : Nat) t3), some (.ref NA), v17, v18, v19])
        ((NA, lObj nas.toArray kn) :: (MB, lObj ms.toArray km) :: (dm, od) :: rest) → Tus rest nas na → nas.length ≤ bs.length → merge (0, 0, 0) [] bs = (c, na) → Q .next ⟨h, gs, dr, t, os⟩) :
    ForK w A (env_gmb L) forT forB (.ref it) Q s := by
  refine for_invT (MI w gs dr os g L la lb dm MB NA it od tla tlb bs v0 v3 v5 v6 v7 v8 v9 v10 v11 v12) (fun n s C hC hI => ?_) _ I0
  obtain ⟨h, t, x, c, na, ms, nas, km, kn, oi, rest, t1, t2, t3, v17, v18, v19, rfl, rfl, hx, H, hi, M, T, hn, hm⟩ := hI
  have hml := M.length
  by_cases hlt : x < bs.length
  · obtain ⟨a, o, e1, e2, dd, ti, tj, tk, rfl⟩ := M.get (List.getElem?_eq_getElem hlt)
    generalize hb : bs[x] = b at e1 e2
    have hdrop : bs.drop x = b :: bs.drop (x + 1) := by rw [List.drop_eq_getElem_cons hlt, hb]
    refine nx_list 0 H rfl hi (lo_isList (H.at 2 rfl)) (x := .ref a) (by simpa using e1) fun h1 oi' hi' H1 => ?_
    dsimp only [List.set] at H1 ⊢
    refine go_li (H1.at 0 rfl) hi' ?_
    refine a_tupM [(Str.ofString "i2", _), (Str.ofString "j2", _), (Str.ofString "k2", _)] B hA.hh H1 (H1.mem (.tail _ (in3 e2))) (by with_unfolding_all rfl) (by with_unfolding_all rfl) (by with_unfolding_all rfl) fun h2 k2 H2 => ?_
    dsimp only [List.map]
    repeat (first | (with_reducible refine stn_cons ?_) | with_reducible refine stn_nil ?_ | ((with_reducible first|refine st_gmb_17 ‹_› ?_|refine st_gmb_18 ‹_› ?_|refine st_gmb_19 ‹_› ?_); intro _ _ _) | fail | fail)
    change WP w A (execs (loopB (nthS (bodyOf (me 8 7)) 9)) (env_gmb L)) _ _
    refine r_cons ?_
    refine r_if ?_
    refine t_and2 (p := ((c.1 : Int) + c.2.2 == b.1)) (q := ((c.2.1 : Int) + c.2.2 == b.2.1)) (fun Q' z => by
          repeat (first | (with_reducible first|refine ld_gmb_13 ‹_› ?_|refine ld_gmb_15 ‹_› ?_|refine ld_gmb_17 ‹_› ?_) | (first|(with_reducible first|refine e_bin ?_|refine t_cmp ?_|refine t_bool ?_)|(with_reducible refine o_add ?_; intro _ _)|with_reducible refine c_eq ?_))
          exact z _) (fun _ Q' z => by
          repeat (first | (with_reducible first|refine ld_gmb_14 ‹_› ?_|refine ld_gmb_15 ‹_› ?_|refine ld_gmb_18 ‹_› ?_) | (first|(with_reducible first|refine e_bin ?_|refine t_cmp ?_|refine t_bool ?_)|(with_reducible refine o_add ?_; intro _ _)|with_reducible refine c_eq ?_))
          exact z _) fun t9 => ?_
    rename_i h3 t8 H3
    by_cases hc : c.1 + c.2.2 = b.1 ∧ c.2.1 + c.2.2 = b.2.1
    · have e3 : mstep c na b = ((c.1, c.2.1, c.2.2 + b.2.2), na) := if_pos hc
      rw [show (((c.1 : Int) + c.2.2 == b.1) && ((c.2.1 : Int) + c.2.2 == b.2.1)) = true by simp; (first|lia|omega)]
      rw [if_pos rfl]
      refine r_cons ?_
      refine r_aug ?_
      refine ldN_of ok_gmb H3 15 rfl rfl ?_
      repeat (first | (with_reducible refine ld_gmb_19 ‹_› ?_) | (with_reducible refine o_iadd ?_; intro _ _))
      (with_reducible refine st_gmb_15 ‹_› ?_); intro h4 t4 H4
      refine r_nil (r_nilT ?_)
      exact hC (bs.length - (x + 1)) _ (by (first|lia|omega)) (MI.mk (c := (c.1, c.2.1, c.2.2 + b.2.2)) (x + 1) rfl (by (first|lia|omega)) (by simpa using H4) hi' M T (by (first|lia|omega)) (by rw [← hm, hdrop]; show _ = merge (mstep c na b).1 (mstep c na b).2 _; rw [e3]))
    · rw [show (((c.1 : Int) + c.2.2 == b.1) && ((c.2.1 : Int) + c.2.2 == b.2.1)) = false by simp; (first|lia|omega)]
      rw [if_neg (by decide)]
      have tail : ∀ (h5 : Heap) (t5 : Nat) (na' : List Bk) (nas' : List Value) (kn' : Nat) (rest' : List (Addr × Obj)), Hp g L h5 (LV ns_gmb [v0, some (.int (la : Nat) tla), some (.int (lb : Nat) tlb), v3, some (.ref MB), v5, v6, v7, v8, v9, v10, v11, v12, some (.int (c.1 : Nat) t1), some (.int (c.2.1 : Nat) t2), some (.int (c.2.2 : Nat) t3), some (.ref NA), some (.int (b.1 : Nat) ti), some (.int (b.2.1 : Nat) tj), some (.int (b.2.2 : Nat) tk)])
          ((it, oi') :: (NA, lObj nas'.toArray kn') :: (MB, lObj ms.toArray km) :: (dm, od) :: rest') → Tus rest' nas' na' → Mos rest' ms bs → nas'.length ≤ x + 1 → mstep c na b = (b, na') →
          WP w A (execs (elseB.drop 1) (env_gmb L)) (Seq (fun s' => WP w A (execs [] (env_gmb L)) (Turn C (fun s₃ => Q .next s₃) Q) s') (Turn C (fun s₃ => Q .next s₃) Q)) ⟨h5, gs, dr, t5, os⟩ := by
        intro h5 t5 na' nas' kn' rest' H5 T5 M5 hn5 e5
        refine r_cons ?_
        refine r_swap [Str.ofString "i1", Str.ofString "j1", Str.ofString "k1"] (by with_unfolding_all rfl) ?_
        repeat (first | (with_reducible first|refine ld_gmb_17 ‹_› ?_|refine ld_gmb_18 ‹_› ?_|refine ld_gmb_19 ‹_› ?_) | (first|(with_reducible first|refine sp_cons ?_|refine sp_nil ?_|refine e_tuple ‹_› ?_)|(with_reducible refine n_tuple ‹_› ?_; intro _ _ _ _ _ _)))
        refine k_swap3 hA.hh (by assumption) fun h6 H6 => ?_
        repeat (first | (with_reducible refine stn_cons ?_) | with_reducible refine stn_nil ?_ | ((with_reducible first|refine st_gmb_13 ‹_› ?_|refine st_gmb_14 ‹_› ?_|refine st_gmb_15 ‹_› ?_); intro _ _ _) | fail | (with_reducible first|refine r_nil ?_|refine r_nilT ?_))
        rename_i h7 t7 H7
        exact hC (bs.length - (x + 1)) _ (by (first|lia|omega)) (MI.mk (c := b) (x + 1) rfl (by (first|lia|omega)) H7 hi' M5 T5 hn5 (by rw [← hm, hdrop]; show _ = merge (mstep c na b).1 (mstep c na b).2 _; rw [e5]))
      refine r_cons ?_
      refine r_if ?_
      refine t_other ?_
      repeat (first | (with_reducible refine ld_gmb_15 ‹_› ?_) | fail)
      refine t_int ?_
      by_cases hk : c.2.2 = 0
      · rw [if_neg (by simp [hk])]
        refine r_nil ?_
        refine tail h3 _ na nas kn rest H3 T M (by (first|lia|omega)) ?_
        unfold mstep
        rw [if_neg hc, if_neg (by simp [hk])]
      · rw [if_pos (by simp [hk])]
        refine r_cons ?_
        refine r_expr ?_
        refine e_meth ?_
        (with_reducible refine ld_gmb_16 ‹_› ?_)
        refine m_append (H3.at 1 rfl) ?_
        refine cw_append ?_
        repeat (first | (with_reducible first|refine ld_gmb_13 ‹_› ?_|refine ld_gmb_14 ‹_› ?_|refine ld_gmb_15 ‹_› ?_) | (first|(with_reducible first|refine sp_cons ?_|refine sp_nil ?_|refine e_tuple ‹_› ?_)|(with_reducible refine n_tuple ‹_› ?_; intro _ _ _ _ _ _)))
        rename_i qa h8 H8 _ _ _
        refine k_append 1 (H8.perm (mp5 _ _ _ _ _ _)) rfl (by simp; (first|lia|omega)) fun h9 H9 => ?_
        dsimp only [List.set] at H9
        rw [List.push_toArray] at H9
        refine r_nil ?_
        refine tail h9 _ (na ++ [c]) (nas ++ [.ref qa]) (kn + 1) _ H9 ((T.mono fun p hp => .tail _ hp).snoc (.head _)) (M.mono fun p hp => .tail _ hp) (by simp; (first|lia|omega)) ?_
        unfold mstep
        rw [if_neg hc, if_pos (by simpa using hk)]
  · have : x = bs.length := by (first|lia|omega)
    subst this
    refine nx_list_end 0 hA.hh H rfl hi (lo_isList (H.at 2 rfl)) (by simp [hml]) fun h1 H1 => ?_
    dsimp only [List.eraseIdx] at H1 ⊢
    refine y h1 t c na ms nas km kn rest t1 t2 t3 v17 v18 v19 H1 T (by (first|lia|omega)) ?_
    rw [← hm, List.drop_length]; rfl
end
-- the heap without one object
theorem lift {w : World} {g h : Heap} {dm : Addr} {o : Obj} (B : Bs w g) (k : Ext g h) (hs : g.objs.size ≤ h.objs.size) (hn : g.get? dm = none) (ho : h.get? dm = some o) :
    ∃ g', Bs w g' ∧ Ext g g' ∧ Ext g' h ∧ g'.objs.size = h.objs.size ∧ g'.get? dm = none ∧ ∀ b, b ≠ dm → g'.get? b = h.get? b := by
  have hg : (h.update dm fun o => { o with data := .freed }).get? dm = none := by
    cases q : (h.update dm fun o => { o with data := .freed }).get? dm with
    | none => rfl
    | some x =>
      obtain ⟨e1, e2⟩ := (Heap.get?_eq_some _ _ _).mp q
      rw [Heap.objs_update_self] at e1
      cases q2 : h.objs[dm]? with
      | none => rw [q2] at e1; cases e1
      | some y => rw [q2] at e1; simp at e1; subst e1; simp [Obj.alive] at e2
  have oth : ∀ b, b ≠ dm → (h.update dm fun o => { o with data := .freed }).get? b = h.get? b := fun b hb => Heap.get?_update_other _ _ hb.symm
  have k1 : Ext g (h.update dm fun o => { o with data := .freed }) := fun b x e => (oth b (by rintro rfl; rw [hn] at e; cases e)).trans (k b x e)
  refine ⟨_, B.keeps k1, k1, fun b x e => ?_, size_update _ _ _, hg, oth⟩
  by_cases q : b = dm
  · subst q; rw [hg] at e; cases e
  · rw [← oth b q]; exact e
-- new objects, beside the change of one
structure Nw (h h' : Heap) (nw : List (Addr × Obj)) : Prop where
  at_ : ∀ p ∈ nw, h'.get? p.1 = some p.2
  new : ∀ p ∈ nw, h.get? p.1 = none
  nd : (nw.map (·.1)).Nodup
theorem Hp.addAll {g h h' : Heap} {L a : Addr} {o o' : Obj} {m : Str → Option Value} {news nw : List (Addr × Obj)} (H : Hp g L h m news) (i : Nat) (e : news[i]? = some (a, o)) (k : ExtB a h h') (ho : h'.get? a = some o') (n : Nw h h' nw) : Hp g L h' m (nw ++ news.set i (a, o')) := by
  have H' := H.extB i e k ho
  have ne : ∀ p ∈ nw, ∀ q ∈ news.set i (a, o'), p.1 ≠ q.1 := by
    intro p hp q hq z
    have h1 := n.new p hp
    rcases mem_set_of news i e H.nd q hq with rfl | ⟨hq, -⟩
    · rw [z] at h1
      have := H.at i e
      rw [this] at h1; cases h1
    · have := (H.N q hq).1
      rw [← z, h1] at this; cases this
  refine ⟨H'.F, fun p hp => ?_, ?_⟩
  · rcases List.mem_append.mp hp with hp | hp
    · refine ⟨n.at_ p hp, fun z => ?_, ?_⟩
      · obtain ⟨oL, _, _, hL, _⟩ := H.F.ns
        have := n.new p hp
        rw [z, hL] at this; cases this
      · cases q : g.get? p.1 with
        | none => rfl
        | some x => have := n.new p hp; rw [H.F.keep _ _ q] at this; cases this
    · exact H'.N p hp
  · rw [List.map_append, List.nodup_append]
    refine ⟨n.nd, H'.nd, ?_⟩
    intro x hx y hy
    obtain ⟨p, hp, rfl⟩ := List.mem_map.mp hx
    obtain ⟨q, hq, rfl⟩ := List.mem_map.mp hy
    exact ne p hp q hq
theorem Mos.strip {rest : List (Addr × Obj)} {dm : Addr} {es : List DictEntry} {nd : Nat} {vs : List Value} {bs : List Bk} (m : Mos ((dm, dictOf es nd) :: rest) vs bs) : Mos rest vs bs := by
  generalize hr : (dm, dictOf es nd) :: rest = r at m
  induction m with
  | nil => exact .nil
  | cons a b _ ih =>
    subst hr
    rcases List.mem_cons.mp a with e | a
    · obtain ⟨dd, ti, tj, tk, e'⟩ := b
      injection e with _ e
      rw [e'] at e
      injection e with _ _ e
      cases e
    · exact .cons a b ih
noncomputable def gmbN (k : Nat) : List Stmt := (bodyOf (me 8 7)).drop k
section
variable {w : World} {A : Around} {gs : Array GenState} {dr : Drawn} {os : OsState} {g h : Heap} {t : Nat} {d u : Nat} {L : Addr}
theorem isn_ref_none {a : Addr} {Q : Value → Shared → Prop} {s : Shared} (y : Q (.bool true) s) : WP w A (compareOp .IsNot (.ref a) .none) Q s := wpAny_of_eq (a := .bool true) rfl y
set_option maxHeartbeats 4000000 in
-- the end of get_matching_blocks: the sort, the merging, the list of Match objects
theorem gmb_end {la lb : Nat} {mt dm MB : Addr} {es : List DictEntry} {nd c km : Nat} {vs : List (Option Value)} {tla tlb : Tok} {bs : List Bk} {ms : List Value} {rest : List (Addr × Obj)} {v3 v5 v6 v7 v8 v9 v10 v11 v12 : Option Value} {Q : Value → Shared → Prop}
    (B : Bs w g) (hA : AOk A d u) (hd : d + 1 < recursionLimit) (hu : u + 1 < cLine) (hm : g.get? mt = some (instObj 249 dm)) (at_ : Att es vs c) (hc : c ≤ 900) (h2 : bs.length ≤ 2) (hne : ∀ p q, bs = [p, q] → p.1 ≠ q.1)
    (H : Hp g L h (LV ns_gmb [some (.ref mt), some (.int (la : Nat) tla), some (.int (lb : Nat) tlb), v3, some (.ref MB), v5, v6, v7, v8, v9, v10, v11, v12, none, none, none, none, none, none, none])
        ((MB, lObj ms.toArray km) :: (dm, dictOf es nd) :: rest)) (M : Mos rest ms bs)
    (y : ∀ (BL : Addr) (h' : Heap) (t' : Nat) (acc : List Value) (k' : Nat) (rest' : List (Addr × Obj)) (es' : List DictEntry) (nd' : Nat) (m' : Str → Option Value), Hp g L h' m' ((dm, dictOf es' nd') :: (BL, lObj acc.toArray k') :: rest') → Att es' (vs.set 4 (some (.ref BL))) (c + 1) →
      Mos rest' acc (blocksOf (Asc bs) la lb) → Q (.ref BL) ⟨h', gs, dr, t', os⟩) :
    WP w A (execs (gmbN 6) (env_gmb L)) (Ret Q) ⟨h, gs, dr, t, os⟩ := by
  refine r_cons ?_
  refine r_expr ?_
  refine e_meth ?_
  (with_reducible refine ld_gmb_4 ‹_› ?_)
  refine m_meth (H.at 0 rfl) PyProof.Rows.slot_list_sort F.type_list_sort ?_
  refine call_self0 ?_
  refine keep_b ?_
  refine wpAny_call_entry PyProof.Rows.slot_list_sort (T := "list") ⟨_, H.at 0 rfl, rfl⟩ PyProof.Rows.entry_list_sort ?_ (PyProof.Rows.args_list_sort _)
  have hal : (Asc bs).length = bs.length := by
    unfold Asc
    split
    · split <;> rfl
    · rfl
  refine sort_few (bs := bs) B hA.in1 hu H (M.mono fun p hp => .tail _ hp) h2 hne fun h1 ms1 km1 H1 M1 => ⟨_, rfl, ?_⟩
  refine r_cons ?_
  refine r_three ?_
  refine e_int fun tv t1 => ?_
  refine a_name ?_
  (with_reducible refine st_gmb_13 ‹_› ?_); intro h2' t2 H2
  refine a_name ?_
  (with_reducible refine st_gmb_14 ‹_› ?_); intro h3 t3 H3
  refine a_name ?_
  (with_reducible refine st_gmb_15 ‹_› ?_); intro h4 t4 H4
  refine r_cons ?_
  refine r_assign ?_
  refine e_list ?_
  refine sp_nil ?_
  refine n_list (by assumption) fun NA h5 hNA H5 => ?_
  (with_reducible refine st_gmb_16 ‹_› ?_); intro h6 t6 H6
  refine r_cons ?_
  refine r_for ?_
  (with_reducible refine ld_gmb_4 ‹_› ?_)
  refine it_list H6 (lo_isList (H6.at 1 rfl)) fun it h7 oi hi H7 => ?_
  have M7 : Mos rest ms1 (Asc bs) := M1.strip
  refine merge_ok B hA (by (first|lia|omega)) ⟨h7, _, 0, (0, 0, 0), [], ms1, [], km1, 0, oi, rest, _, _, _, none, none, none, rfl, rfl, Nat.zero_le _, H7, hi, M7, .nil, Nat.le_refl _, rfl⟩ ?_
  intro h8 t8 cc na ms8 nas km8 kn rest8 u1 u2 u3 v17 v18 v19 H8 T8 hn8 hm8
  have tail : ∀ (h9 : Heap) (t9 : Nat) (nas9 : List Value) (na9 : List Bk) (kn9 : Nat) (rest9 : List (Addr × Obj)), Hp g L h9 (LV ns_gmb [some (.ref mt), some (.int (la : Nat) tla), some (.int (lb : Nat) tlb), v3, some (.ref MB), v5, v6, v7, v8, v9, v10, v11, v12, some (.int (cc.1 : Nat) u1), some (.int (cc.2.1 : Nat) u2), some (.int (cc.2.2 : Nat) u3), some (.ref NA), v17, v18, v19])
        ((NA, lObj nas9.toArray kn9) :: (MB, lObj ms8.toArray km8) :: (dm, dictOf es nd) :: rest9) → Tus rest9 nas9 na9 → nas9.length ≤ 50 → closeM (merge (0, 0, 0) [] (Asc bs)) = na9 → WP w A (execs (gmbN 11) (env_gmb L)) (Ret Q) ⟨h9, gs, dr, t9, os⟩ := by
    intro h9 t9 nas9 na9 kn9 rest9 H9 T9 hn9 hc9
    refine r_cons ?_
    refine r_expr ?_
    refine e_meth ?_
    (with_reducible refine ld_gmb_16 ‹_› ?_)
    refine m_append (H9.at 0 rfl) ?_
    refine cw_append ?_
    repeat (first | (with_reducible first|refine ld_gmb_1 ‹_› ?_|refine ld_gmb_2 ‹_› ?_) | (first|(with_reducible first|refine sp_cons ?_|refine sp_nil ?_)|(with_reducible refine e_int ?_; intro _ _)|with_reducible refine e_tuple ‹_› ?_|(with_reducible refine n_tuple ‹_› ?_; intro _ _ _ _ _ _)))
    rename_i tz t10 qa h10 H10 _ _ _
    refine k_append 0 H10.sink3 rfl (by simp; (first|lia|omega)) fun h11 H11 => ?_
    dsimp only [List.set] at H11
    rw [List.push_toArray] at H11
    have T11 : Tus ((qa, tObj [.int (la : Nat) tla, .int (lb : Nat) tlb, .int 0 tz]) :: rest9) (nas9 ++ [.ref qa]) (blocksOf (Asc bs) la lb) := by
      unfold blocksOf
      rw [hc9]
      exact (T9.mono fun p hp => .tail _ hp).snoc (b := (la, lb, 0)) (.head _)
    refine r_cons ?_
    refine r_attr ?_
    refine e_call ?_
    (with_reducible refine gl_gmb_list ‹_› ‹_› ?_)
    refine call_rule ?_
    refine sp_cons ?_
    refine e_call ?_
    (with_reducible refine gl_gmb_map ‹_› ‹_› ?_)
    refine call_rule ?_
    refine sp_cons ?_
    refine e_attr ?_
    (with_reducible refine gl_gmb_Match ‹_› ‹_› ?_)
    have e1 := ma1 pw w.params h11.objs.size t10
    rw [← table_eq_fast] at e1
    refine run_sound (s := ⟨h11, gs, dr, t10, os⟩) e1 (given_of B H11.F.keep) hA.hh rfl rfl ?_
    show WP w A _ _ _
    refine g_go ?_
    have H12 := H11.push meObj
    refine sp_cons ?_
    (with_reducible refine ld_gmb_16 ‹_› ?_)
    refine sp_nil ?_
    refine keep_t ?_
    refine map_new B hA H12 (H12.at 1 rfl) fun mp tu it' oi' h13 hi' H13 => ?_
    refine sp_nil ?_
    refine keep_t ?_
    refine list_map (vs := nas9 ++ [.ref qa]) (bs := blocksOf (Asc bs) la lb) B hA (by (first|lia|omega)) H13 (.head _) (.tail _ (.head _)) hi' (T11.mono fun p hp => .tail _ (.tail _ (.tail _ (.tail _ hp)))) (by simp; (first|lia|omega)) fun S h14 t14 acc k' rest' H14 M14 sub => ?_
    have hin : (dm, dictOf es nd) ∈ rest' := sub _ (.tail _ (.tail _ (.tail _ (.head _))))
    obtain ⟨pre, post, rfl⟩ := List.append_of_mem hin
    have H15 : Hp g L h14 _ ((dm, dictOf es nd) :: (S, lObj acc.toArray k') :: (pre ++ post)) := H14.perm (by
      have := (List.perm_middle (a := (dm, dictOf es nd)) (l₁ := (S, lObj acc.toArray k') :: pre) (l₂ := post))
      simpa using this)
    have M15 : Mos (pre ++ post) acc (blocksOf (Asc bs) la lb) := (M14.mono (r' := (dm, dictOf es nd) :: (pre ++ post)) fun p hp => by
      rcases List.mem_append.mp hp with hp | hp
      · exact .tail _ (List.mem_append_left _ hp)
      · rcases List.mem_cons.mp hp with rfl | hp
        · exact .head _
        · exact .tail _ (List.mem_append_right _ hp)).strip
    refine a_attr ?_
    (with_reducible refine ld_gmb_0 ‹_› ?_)
    refine m_set 0 4 B H15 (H15.F.keep _ _ hm) rfl at_ rfl hc fun h16 t16 es' nd' at' H16 => ?_
    dsimp only [List.set] at H16
    refine r_cons ?_
    refine r_ret ?_
    refine e_attr ?_
    (with_reducible refine ld_gmb_0 ‹_› ?_)
    refine m_getA 0 4 B H16 (H16.F.keep _ _ hm) rfl at' rfl (by rw [List.getElem?_set_self]; have := at_.len; rw [← this]; decide) (fi_mb _) rfl fun t17 => ?_
    refine g_go ?_
    exact y S h16 _ acc k' _ es' nd' _ H16 at' M15
  refine r_cons ?_
  refine r_if ?_
  refine t_other ?_
  repeat (first | (with_reducible refine ld_gmb_15 ‹_› ?_) | fail)
  refine t_int ?_
  have hcl : closeM (merge (0, 0, 0) [] (Asc bs)) = if cc.2.2 ≠ 0 then na ++ [cc] else na := by rw [hm8]; rfl
  by_cases hk : cc.2.2 = 0
  · rw [if_neg (by simp [hk])]
    refine r_nil ?_
    exact tail h8 _ nas na kn rest8 H8 T8 (by (first|lia|omega)) (by rw [hcl, if_neg (by simpa using hk)])
  · rw [if_pos (by simp [hk])]
    refine r_cons ?_
    refine r_expr ?_
    refine e_meth ?_
    (with_reducible refine ld_gmb_16 ‹_› ?_)
    refine m_append (H8.at 0 rfl) ?_
    refine cw_append ?_
    repeat (first | (with_reducible first|refine ld_gmb_13 ‹_› ?_|refine ld_gmb_14 ‹_› ?_|refine ld_gmb_15 ‹_› ?_) | (first|(with_reducible first|refine sp_cons ?_|refine sp_nil ?_|refine e_tuple ‹_› ?_)|(with_reducible refine n_tuple ‹_› ?_; intro _ _ _ _ _ _)))
    rename_i qb h18 H18 _ _ _
    refine k_append 0 H18.sink3 rfl (by simp; (first|lia|omega)) fun h19 H19 => ?_
    dsimp only [List.set] at H19
    rw [List.push_toArray] at H19
    refine r_nil ?_
    exact tail h19 _ (nas ++ [.ref qb]) (na ++ [cc]) _ _ H19 ((T8.mono fun p hp => .tail _ hp).snoc (.head _)) (by simp; (first|lia|omega)) (by rw [hcl, if_pos hk])
end
section
variable {w : World} {A : Around} {gs : Array GenState} {dr : Drawn} {os : OsState} {g h : Heap} {t : Nat} {d u : Nat} {L : Addr}
theorem SetOf.mono {h h' : Heap} {J : Addr} (k : Ext h h') (x : h.SetOf (strKind pw w) J (fun _ => false) 0) : h'.SetOf (strKind pw w) J (fun _ => false) 0 := let ⟨o, es, ep, tb, e, r⟩ := x; ⟨o, es, ep, tb, k _ _ e, r⟩
set_option maxHeartbeats 4000000 in
theorem gmb_ok {a b : Str} {ta tb : Tok} {mt dm D J : Addr} {es : List DictEntry} {nd c n : Nat} {vs : List (Option Value)} {res : List Bk} {Q : Value → Shared → Prop} {js : Array (Int × Value)} {jp : Nat} {jt : SetTable}
    (B : Bs w g) (kg : Ext g h) (hs : g.objs.size ≤ h.objs.size) (hA : AOk A d u) (hd : d + 3 < recursionLimit) (hu : u + 4 < cLine) (hm : g.get? mt = some (instObj 249 dm)) (hdn : g.get? dm = none) (hdm : h.get? dm = some (dictOf es nd)) (at_ : Att es vs c) (hc : c ≤ 900)
    (ea : vs[1]? = some (some (.str a ta))) (eb : vs[2]? = some (some (.str b tb))) (eM : vs[4]? = some (some .none)) (eD : vs[7]? = some (some (.ref D))) (eJ : vs[8]? = some (some (.ref J)))
    (hD : B2J w g D b.cps.toList) (hJ : g.get? J = some (sO js jp jt)) (hJ' : g.SetOf (strKind pw w) J (fun _ => false) 0) (ha : a.length ≤ 1000) (hb : b.length ≤ 1000)
    (R : Runs a.cps.toList b.cps.toList (some (0, a.length, 0, b.length)) [] res n) (h2 : res.length ≤ 2) (hne : ∀ p q, res = [p, q] → p.1 ≠ q.1)
    (y : ∀ (BL : Addr) (h' : Heap) (t' : Nat) (acc : List Value) (k' : Nat) (rest' : List (Addr × Obj)) (es' : List DictEntry) (nd' : Nat), ExtB dm h h' → h'.get? dm = some (dictOf es' nd') → Nw h h' ((BL, lObj acc.toArray k') :: rest') → Att es' (vs.set 4 (some (.ref BL))) (c + 1) →
      Mos rest' acc (blocksOf (Asc res) a.length b.length) → Q (.ref BL) ⟨h', gs, dr, t', os⟩) :
    WP w A (call (.ref 210) [.ref mt]) Q ⟨h, gs, dr, t, os⟩ := by
  obtain ⟨g', B', k1, k2, e1, e2, e3⟩ := lift B kg hs hdn hdm
  refine enter (vs := [.ref mt]) (ns := ns_gmb) (news := [(dm, dictOf es nd)]) g' B' k2 (Nat.le_of_eq e1) (by intro p hp; simp at hp; subst hp; exact ⟨hdm, e2⟩) (by simp) hA (by (first|lia|omega)) ok_gmb (lk_210 _) (cd_210 _) (.of_eq (by kernel_rfl!)) (by kernel_rfl!) (by kernel_rfl!) (by kernel_rfl!) ?_
  intro h1 t1 H kk
  change WP w _ (execs (bodyOf (me 8 7)) (env_gmb h.objs.size)) _ _
  have hA1 := hA.deeper (envOf (Str.ofString "SequenceMatcher.get_matching_blocks") (scoOf (me 8 7)) h.objs.size 210 (.ref 209))
  generalize A.deeper _ = A1 at hA1 ⊢
  change Hp g' h.objs.size h1 (LV ns_gmb [some (.ref mt), none, none, none, none, none, none, none, none, none, none, none, none, none, none, none, none, none, none, none]) [(dm, dictOf es nd)] at H
  have hm' := k1 _ _ hm
  refine r_cons ?_
  refine r_expr ?_
  (with_reducible refine e_str ?_; intro _ _)
  refine r_cons ?_
  refine r_if ?_
  refine t_cmp ?_
  refine e_attr ?_
  (with_reducible refine ld_gmb_0 ‹_› ?_)
  refine m_getA 0 4 B' H (H.F.keep _ _ hm') rfl at_ rfl eM (fi_mb _) rfl fun t2 => ?_
  refine g_go ?_
  refine e_none ?_
  refine isn_none ?_
  refine t_bool ?_
  rw [if_neg (by decide)]
  refine r_nil ?_
  refine r_cons ?_
  refine r_swap [Str.ofString "la", Str.ofString "lb"] (by with_unfolding_all rfl) ?_
  refine e_tuple H ?_
  refine sp_cons ?_
  refine e_call ?_
  (with_reducible refine gl_gmb_len ‹_› ‹_› ?_)
  refine call_rule ?_
  refine sp_cons ?_
  refine e_attr ?_
  (with_reducible refine ld_gmb_0 ‹_› ?_)
  refine m_getA 0 1 B' H (H.F.keep _ _ hm') rfl at_ rfl ea (fi_a _) rfl fun t3 => ?_
  refine g_go ?_
  refine sp_nil ?_
  refine keep_b ?_
  refine o_len_str (by (first|lia|omega)) fun tla t4 => ?_
  refine sp_cons ?_
  refine e_call ?_
  (with_reducible refine gl_gmb_len ‹_› ‹_› ?_)
  refine call_rule ?_
  refine sp_cons ?_
  refine e_attr ?_
  (with_reducible refine ld_gmb_0 ‹_› ?_)
  refine m_getA 0 2 B' H (H.F.keep _ _ hm') rfl at_ rfl eb (fi_b _) rfl fun t5 => ?_
  refine g_go ?_
  refine sp_nil ?_
  refine keep_b ?_
  refine o_len_str (by (first|lia|omega)) fun tlb t6 => ?_
  refine sp_nil ?_
  refine n_tuple H fun q h2' H2 x1 x2 x3 => ?_
  refine k_swap2 hA1.hh H2 fun h3 H3 => ?_
  repeat (first | (with_reducible refine stn_cons ?_) | with_reducible refine stn_nil ?_ | ((with_reducible first|refine st_gmb_1 ‹_› ?_|refine st_gmb_2 ‹_› ?_); intro _ _ _))
  rename_i h4 t7 H4
  refine r_cons ?_
  refine r_assign ?_
  refine e_list ?_
  refine sp_cons ?_
  repeat (first | (with_reducible first|refine ld_gmb_1 ‹_› ?_|refine ld_gmb_2 ‹_› ?_) | (first|(with_reducible first|refine sp_cons ?_|refine sp_nil ?_)|(with_reducible refine e_int ?_; intro _ _)|with_reducible refine e_tuple ‹_› ?_|(with_reducible refine n_tuple ‹_› ?_; intro _ _ _ _ _ _)))
  rename_i qa h5 H5 _ _ _
  refine n_list H5 fun QL h6 hQL H6 => ?_
  (with_reducible refine st_gmb_3 ‹_› ?_); intro h7 t8 H7
  refine r_cons ?_
  refine r_assign ?_
  refine e_list ?_
  refine sp_nil ?_
  refine n_list H7 fun MB h8 hMB H8 => ?_
  (with_reducible refine st_gmb_4 ‹_› ?_); intro h9 t9 H9
  refine r_cons ?_
  have H9' := H9.perm (List.Perm.trans (List.Perm.swap _ _ _) (.cons _ (.cons _ (.swap _ _ _))))
  refine while_ok B' hA1 (by (first|lia|omega)) hm' at_ ea eb eD eJ (hD.mono k1) (k1 _ _ hJ) (SetOf.mono k1 hJ') ha hb ⟨h9, _, some (0, a.length, 0, b.length), [], [.ref qa], [], _, _, [(qa, _)], _, _, _, _, _, _, _, _, rfl, H9', R, .nil, by simp, ⟨qa, _, rfl, .head _, ⟨_, _, _, _, rfl⟩⟩, Nat.zero_le _, Nat.le_refl _, Nat.zero_le _, Nat.le_refl _⟩ ?_
  intro h10 t10 ms km rest v5 v6 v7 v8 v9 v10 v11 v12 H10 M10
  refine gmb_end B' hA1 (by (first|lia|omega)) (by (first|lia|omega)) hm' at_ hc h2 hne H10 M10 fun BL h11 t11 acc k' rest' es' nd' m' H11 at' M11 => ?_
  refine y BL h11 t11 acc k' rest' es' nd' (fun x o hx e => ?_) (H11.at 0 rfl) ⟨fun p hp => (H11.N p (.tail _ hp)).1, fun p hp => ?_, (List.nodup_cons.mp H11.nd).2⟩ at' M11
  · exact H11.F.keep _ _ ((e3 x hx).trans e)
  · have hne2 : p.1 ≠ dm := fun z => (List.nodup_cons.mp H11.nd).1 (List.mem_map.mpr ⟨p, hp, z⟩)
    rw [← e3 _ hne2]
    exact (H11.N p (.tail _ hp)).2.2
end
theorem lk_217 (P : Params) : (KF P).lookup 217 = some (o217 P) := by kernel_rfl!
theorem cd_217 (P : Params) : codeIn (KF P) (.ref 216) (Str.ofString "SequenceMatcher.get_opcodes") = true := by kernel_rfl!
theorem fm_goc (P : Params) : findIn (KF P) (.ref 249) (Str.ofString "get_opcodes") = some (some (.ref 217)) := by kernel_rfl!
theorem fn_goc (P : Params) : isFn (KF P) (.ref 217) = true := by kernel_rfl!
noncomputable abbrev Oc := String × Nat × Nat × Nat × Nat
-- an edit operation as a tuple
noncomputable abbrev oObj (o : Oc) (t0 t1 t2 t3 t4 : Tok) : Obj := tObj [.str (Str.ofString o.1) t0, .int (o.2.1 : Nat) t1, .int (o.2.2.1 : Nat) t2, .int (o.2.2.2.1 : Nat) t3, .int (o.2.2.2.2 : Nat) t4]
inductive Ops (rest : List (Addr × Obj)) : List Value → List Oc → Prop
  | nil : Ops rest [] []
  | cons {x : Addr} {o : Oc} {vs : List Value} {os : List Oc} {t0 t1 t2 t3 t4 : Tok} : (x, oObj o t0 t1 t2 t3 t4) ∈ rest → Ops rest vs os → Ops rest (.ref x :: vs) (o :: os)
theorem Ops.mono {r r' : List (Addr × Obj)} {vs : List Value} {bs : List Oc} (h : ∀ p ∈ r, p ∈ r') (m : Ops r vs bs) : Ops r' vs bs := by
  induction m with
  | nil => exact .nil
  | cons a _ ih => exact .cons (h _ a) ih
theorem Ops.snoc {r : List (Addr × Obj)} {vs : List Value} {bs : List Oc} {x : Addr} {o : Oc} {t0 t1 t2 t3 t4 : Tok} (m : Ops r vs bs) (hx : (x, oObj o t0 t1 t2 t3 t4) ∈ r) : Ops r (vs ++ [.ref x]) (bs ++ [o]) := by
  induction m with
  | nil => exact .cons hx .nil
  | cons a _ ih => exact .cons a ih
noncomputable def tg (i j ai bj : Nat) : String := if i < ai ∧ j < bj then "replace" else if i < ai then "delete" else if j < bj then "insert" else ""
noncomputable def cstep1 (i j : Nat) (b : Bk) : List Oc := if tg i j b.1 b.2.1 ≠ "" then [(tg i j b.1 b.2.1, i, b.1, j, b.2.1)] else []
noncomputable def cstep2 (b : Bk) : List Oc := if b.2.2 ≠ 0 then [("equal", b.1, b.1 + b.2.2, b.2.1, b.2.1 + b.2.2)] else []
noncomputable def codesOf (i j : Nat) : List Bk → List Oc
  | [] => []
  | b :: bs => (cstep1 i j b ++ cstep2 b) ++ codesOf (b.1 + b.2.2) (b.2.1 + b.2.2) bs
noncomputable def gforB : List Stmt := loopB (nthS (bodyOf (me 8 8)) 4)
noncomputable def gforT : Expr := match nthS (bodyOf (me 8 8)) 4 with | .For t .. => t | _ => .Constant .none 0 default
noncomputable def GI (w : World) (gs : Array GenState) (dr : Drawn) (os : OsState) (g : Heap) (L : Addr) (dm AN BL it : Addr) (kb : Nat) (acc : List Value) (od : Obj) (bs : List Bk) (v0 : Option Value) (n : Nat) (s : Shared) : Prop :=
  ∃ (h : Heap) (t x i j : Nat) (codes : List Oc) (ans : List Value) (kn : Nat) (oi : Obj) (rest : List (Addr × Obj)) (ti tj : Tok) (v4 v5 v6 v7 : Option Value), s = ⟨h, gs, dr, t, os⟩ ∧ n = bs.length - x ∧ x ≤ bs.length ∧
    Hp g L h (LV ns_goc [v0, some (.int (i : Nat) ti), some (.int (j : Nat) tj), some (.ref AN), v4, v5, v6, v7]) ((it, oi) :: (AN, lObj ans.toArray kn) :: (dm, od) :: rest) ∧
    IsLI oi BL x ∧ (BL, lObj acc.toArray kb) ∈ rest ∧ Mos rest acc bs ∧ Ops rest ans codes ∧ ans.length ≤ 2 * x ∧ codes ++ codesOf i j (bs.drop x) = codesOf 0 0 bs
theorem GI.mk {w : World} {gs : Array GenState} {dr : Drawn} {os : OsState} {g : Heap} {L : Addr} {dm AN BL it : Addr} {kb : Nat} {acc : List Value} {od : Obj} {bs : List Bk} {v0 : Option Value} {n : Nat} {h : Heap} {t i j : Nat} {codes : List Oc} {ans : List Value} {kn : Nat} {oi : Obj} {rest : List (Addr × Obj)} {ti tj : Tok} {v4 v5 v6 v7 : Option Value} (x : Nat) (p0 : n = bs.length - x) (p1 : x ≤ bs.length) (p2 : Hp g L h (LV ns_goc [v0, some (.int (i : Nat) ti), some (.int (j : Nat) tj), some (.ref AN), v4, v5, v6, v7]) ((it, oi) :: (AN, lObj ans.toArray kn) :: (dm, od) :: rest)) (p3 : IsLI oi BL x) (p4 : (BL, lObj acc.toArray kb) ∈ rest) (p5 : Mos rest acc bs) (p6 : Ops rest ans codes) (p7 : ans.length ≤ 2 * x) (p8 : codes ++ codesOf i j (bs.drop x) = codesOf 0 0 bs) : GI w gs dr os g L dm AN BL it kb acc od bs v0 n ⟨h, gs, dr, t, os⟩ :=
  ⟨h, t, x, i, j, codes, ans, kn, oi, rest, ti, tj, v4, v5, v6, v7, rfl, p0, p1, p2, p3, p4, p5, p6, p7, p8⟩
section
variable {w : World} {A : Around} {gs : Array GenState} {dr : Drawn} {os : OsState} {g h : Heap} {L : Addr} {d u t : Nat} {m : Str → Option Value} {news : List (Addr × Obj)}
theorem m_gmb {mt dm : Addr} {es : List DictEntry} {n : Nat} {pl : Sem Bool} {Q : Value × List Value → Shared → Prop} (B : Bs w g) (H : Hp g L h m news) (M : Mat h mt dm es n) (hl : look es (Str.ofString "get_matching_blocks") = none) (y : Q (.ref 210, [.ref mt]) ⟨h, gs, dr, t, os⟩) :
    WP w A (getMethod (.ref mt) (Str.ofString "get_matching_blocks") pl) Q ⟨h, gs, dr, t, os⟩ :=
  method_inst (s := ⟨h, gs, dr, t, os⟩) H.F B.K M.inst (sm_plain _ _) (fm_gmb _) (fn_gmb _) (by rw [getL_look M.s, hl]) y
set_option maxHeartbeats 4000000 in
theorem codes_ok {dm AN BL it : Addr} {kb : Nat} {acc : List Value} {od : Obj} {bs : List Bk} {v0 : Option Value} {Q : Flow → Shared → Prop} {s : Shared}
    (B : Bs w g) (hA : AOk A d u) (h100 : bs.length ≤ 100) (I0 : GI w gs dr os g L dm AN BL it kb acc od bs v0 bs.length s)
    (y : ∀ (h : Heap) (t : Nat) (ans : List Value) (kn : Nat) (rest : List (Addr × Obj)) (v1 v2 v4 v5 v6 v7 : Option Value), Hp g L h (LV ns_goc [v0, v1, v2, some (.ref AN), v4, v5, v6, v7]) ((AN, lObj ans.toArray kn) :: (dm, od) :: rest) → Ops rest ans (codesOf 0 0 bs) → ans.length ≤ 2 * bs.length → Q .next ⟨h, gs, dr, t, os⟩) :
    ForK w A (env_goc L) gforT gforB (.ref it) Q s := by
  refine for_invT (GI w gs dr os g L dm AN BL it kb acc od bs v0) (fun n s C hC hI => ?_) _ I0
  obtain ⟨h, t, x, i, j, codes, ans, kn, oi, rest, ti, tj, v4, v5, v6, v7, rfl, rfl, hx, H, hi, hBL, M, O, hn, hm⟩ := hI
  have hml := M.length
  by_cases hlt : x < bs.length
  · obtain ⟨a, o, e1, e2, dd, ta, tb, tc, rfl⟩ := M.get (List.getElem?_eq_getElem hlt)
    generalize hb : bs[x] = b at e1 e2
    have hdrop : bs.drop x = b :: bs.drop (x + 1) := by rw [List.drop_eq_getElem_cons hlt, hb]
    refine nx_list 0 H rfl hi (lo_isList (H.mem (in3 hBL))) (x := .ref a) (by simpa using e1) fun h1 oi' hi' H1 => ?_
    dsimp only [List.set] at H1 ⊢
    refine go_li (H1.at 0 rfl) hi' ?_
    refine a_tupM [(Str.ofString "ai", _), (Str.ofString "bj", _), (Str.ofString "size", _)] B hA.hh H1 (H1.mem (in3 e2)) (by with_unfolding_all rfl) (by with_unfolding_all rfl) (by with_unfolding_all rfl) fun h2 k2 H2 => ?_
    dsimp only [List.map]
    repeat (first | (with_reducible refine stn_cons ?_) | with_reducible refine stn_nil ?_ | ((with_reducible first|refine st_goc_4 ‹_› ?_|refine st_goc_5 ‹_› ?_|refine st_goc_6 ‹_› ?_); intro _ _ _) | fail | fail)
    rename_i h3 t3 H3
    change WP w A (execs (loopB (nthS (bodyOf (me 8 8)) 4)) (env_goc L)) _ _
    have st3 : ∀ (h5 : Heap) (t5 : Nat) (ans' : List Value) (codes' : List Oc) (kn' : Nat) (rest' : List (Addr × Obj)) (v7' : Option Value), Hp g L h5 (LV ns_goc [v0, some (.int (i : Nat) ti), some (.int (j : Nat) tj), some (.ref AN), some (.int (b.1 : Nat) ta), some (.int (b.2.1 : Nat) tb), some (.int (b.2.2 : Nat) tc), v7']) ((it, oi') :: (AN, lObj ans'.toArray kn') :: (dm, od) :: rest') →
        (∀ p ∈ rest, p ∈ rest') → Ops rest' ans' codes' → ans'.length ≤ 2 * x + 1 → codes' = codes ++ cstep1 i j b →
        WP w A (execs (gforB.drop 3) (env_goc L)) (Turn C (fun s₃ => Q .next s₃) Q) ⟨h5, gs, dr, t5, os⟩ := by
      intro h5 t5 ans' codes' kn' rest' v7' H5 sub O5 hn5 e5
      refine r_cons ?_
      refine r_swap [Str.ofString "i", Str.ofString "j"] (by with_unfolding_all rfl) ?_
      repeat (first | (with_reducible first|refine ld_goc_4 ‹_› ?_|refine ld_goc_5 ‹_› ?_|refine ld_goc_6 ‹_› ?_) | (first|(with_reducible first|refine e_bin ?_|refine sp_cons ?_|refine sp_nil ?_)|(with_reducible refine o_add ?_; intro _ _)|with_reducible refine e_tuple ‹_› ?_|(with_reducible refine n_tuple ‹_› ?_; intro _ _ _ _ _ _)))
      refine k_swap2 hA.hh (by assumption) fun h6 H6 => ?_
      repeat (first | (with_reducible refine stn_cons ?_) | with_reducible refine stn_nil ?_ | ((with_reducible first|refine st_goc_1 ‹_› ?_|refine st_goc_2 ‹_› ?_); intro _ _ _))
      rename_i h7 t7 H7
      simp only [← Int.natCast_add] at H7
      refine r_cons ?_
      refine r_if ?_
      refine t_other ?_
      repeat (first | (with_reducible refine ld_goc_6 ‹_› ?_) | fail)
      refine t_int ?_
      by_cases hk : b.2.2 = 0
      · rw [if_neg (by simp [hk])]
        refine r_nil (r_nilT ?_)
        refine hC (bs.length - (x + 1)) _ (by (first|lia|omega)) (GI.mk (i := b.1 + b.2.2) (j := b.2.1 + b.2.2) (x + 1) rfl (by (first|lia|omega)) H7 hi' (sub _ hBL) (M.mono sub) O5 (by (first|lia|omega)) ?_)
        rw [← hm, hdrop, e5]
        show _ = codes ++ ((cstep1 i j b ++ cstep2 b) ++ codesOf (b.1 + b.2.2) (b.2.1 + b.2.2) _)
        unfold cstep2
        rw [if_neg (by simpa using hk)]
        simp
      · rw [if_pos (by simp [hk])]
        refine r_cons ?_
        refine r_expr ?_
        refine e_meth ?_
        (with_reducible refine ld_goc_3 ‹_› ?_)
        refine m_append (H7.at 1 rfl) ?_
        refine cw_append ?_
        repeat (first | (with_reducible first|refine ld_goc_1 ‹_› ?_|refine ld_goc_2 ‹_› ?_|refine ld_goc_4 ‹_› ?_|refine ld_goc_5 ‹_› ?_) | (first|(with_reducible first|refine sp_cons ?_|refine sp_nil ?_)|(with_reducible refine e_str ?_; intro _ _)|with_reducible refine e_tuple ‹_› ?_|(with_reducible refine n_tuple ‹_› ?_; intro _ _ _ _ _ _)))
        rename_i qb h8 H8 _ _ _
        refine k_append 1 H8.sink3 rfl (by simp; (first|lia|omega)) fun h9 H9 => ?_
        dsimp only [List.set] at H9
        rw [List.push_toArray] at H9
        refine r_nil (r_nilT ?_)
        refine hC (bs.length - (x + 1)) _ (by (first|lia|omega)) (GI.mk (i := b.1 + b.2.2) (j := b.2.1 + b.2.2) (ans := ans' ++ [.ref qb]) (x + 1) rfl (by (first|lia|omega)) H9 hi' (.tail _ (sub _ hBL)) (M.mono fun p hp => .tail _ (sub _ hp)) ((O5.mono fun p hp => .tail _ hp).snoc (o := ("equal", b.1, b.1 + b.2.2, b.2.1, b.2.1 + b.2.2)) (.head _)) (by simp; (first|lia|omega)) ?_)
        rw [← hm, hdrop, e5]
        show _ = codes ++ ((cstep1 i j b ++ cstep2 b) ++ codesOf (b.1 + b.2.2) (b.2.1 + b.2.2) _)
        unfold cstep2
        rw [if_pos hk]
        simp
    -- the tag
    have st2 : ∀ (T : String) (h5 : Heap) (t5 : Nat) (tt : Tok), T = tg i j b.1 b.2.1 → (Str.ofString T).length ≤ 1000 → (((Str.ofString T).length : Int) != 0) = decide (T ≠ "") → Hp g L h5 (LV ns_goc [v0, some (.int (i : Nat) ti), some (.int (j : Nat) tj), some (.ref AN), some (.int (b.1 : Nat) ta), some (.int (b.2.1 : Nat) tb), some (.int (b.2.2 : Nat) tc), some (.str (Str.ofString T) tt)]) ((it, oi') :: (AN, lObj ans.toArray kn) :: (dm, od) :: rest) →
        WP w A (execs (gforB.drop 2) (env_goc L)) (Turn C (fun s₃ => Q .next s₃) Q) ⟨h5, gs, dr, t5, os⟩ := by
      intro T h5 t5 tt eT hl hz H5
      refine r_cons ?_
      refine r_if ?_
      refine t_other ?_
      (with_reducible refine ld_goc_7 ‹_› ?_)
      refine t_str (by (first|lia|omega)) fun t6 => ?_
      rw [hz]
      by_cases hT : T = ""
      · rw [if_neg (by simpa using hT)]
        refine r_nil ?_
        exact st3 h5 _ ans codes kn rest _ H5 (fun p hp => hp) O (by (first|lia|omega)) (by unfold cstep1; rw [← eT, if_neg (by simpa using hT)]; simp)
      · rw [if_pos (by simpa using hT)]
        refine r_cons ?_
        refine r_expr ?_
        refine e_meth ?_
        (with_reducible refine ld_goc_3 ‹_› ?_)
        refine m_append (H5.at 1 rfl) ?_
        refine cw_append ?_
        repeat (first | (with_reducible first|refine ld_goc_1 ‹_› ?_|refine ld_goc_2 ‹_› ?_|refine ld_goc_4 ‹_› ?_|refine ld_goc_5 ‹_› ?_|refine ld_goc_7 ‹_› ?_) | (first|(with_reducible first|refine sp_cons ?_|refine sp_nil ?_|refine e_tuple ‹_› ?_)|(with_reducible refine n_tuple ‹_› ?_; intro _ _ _ _ _ _)))
        rename_i qb h8 H8 _ _ _
        refine k_append 1 H8.sink3 rfl (by simp; (first|lia|omega)) fun h9 H9 => ?_
        dsimp only [List.set] at H9
        rw [List.push_toArray] at H9
        refine r_nil ?_
        exact st3 h9 _ (ans ++ [.ref qb]) (codes ++ [(T, i, b.1, j, b.2.1)]) (kn + 1) _ _ H9 (fun p hp => .tail _ hp) ((O.mono fun p hp => .tail _ hp).snoc (o := (T, i, b.1, j, b.2.1)) (.head _)) (by simp; (first|lia|omega)) (by unfold cstep1; rw [← eT, if_pos hT])
    refine r_cons ?_
    refine r_assign ?_
    refine e_str fun tk0 t4 => ?_
    (with_reducible refine st_goc_7 ‹_› ?_); intro h4 t5 H4
    refine r_cons ?_
    refine r_if ?_
    refine t_and2 (p := decide ((i : Int) < b.1)) (q := decide ((j : Int) < b.2.1)) (fun Q' z => by
          repeat (first | (with_reducible first|refine ld_goc_1 ‹_› ?_|refine ld_goc_4 ‹_› ?_) | (with_reducible first|refine t_cmp ?_|refine t_bool ?_|refine c_lt ?_))
          exact z _) (fun _ Q' z => by
          repeat (first | (with_reducible first|refine ld_goc_2 ‹_› ?_|refine ld_goc_5 ‹_› ?_) | (with_reducible first|refine t_cmp ?_|refine t_bool ?_|refine c_lt ?_))
          exact z _) fun t9 => ?_
    by_cases c1 : i < b.1 ∧ j < b.2.1
    · rw [show (decide ((i : Int) < b.1) && decide ((j : Int) < b.2.1)) = true by simp; (first|lia|omega)]
      rw [if_pos rfl]
      refine r_cons ?_
      refine r_assign ?_
      refine e_str fun tk1 t10 => ?_
      (with_reducible refine st_goc_7 ‹_› ?_); intro h6 t11 H6
      refine r_nil ?_
      exact st2 "replace" h6 _ tk1 (by unfold tg; rw [if_pos c1]) (by decide) (by decide) H6
    · rw [show (decide ((i : Int) < b.1) && decide ((j : Int) < b.2.1)) = false by simp; (first|lia|omega)]
      rw [if_neg (by decide)]
      refine r_cons ?_
      refine r_if ?_
      refine t_cmp ?_
      repeat (first | (with_reducible first|refine ld_goc_1 ‹_› ?_|refine ld_goc_4 ‹_› ?_) | (with_reducible first|refine t_bool ?_|refine c_lt ?_))
      by_cases c2 : i < b.1
      · rw [if_pos (by simpa using c2)]
        refine r_cons ?_
        refine r_assign ?_
        refine e_str fun tk1 t10 => ?_
        (with_reducible refine st_goc_7 ‹_› ?_); intro h6 t11 H6
        refine r_nil (r_nil ?_)
        exact st2 "delete" h6 _ tk1 (by unfold tg; rw [if_neg c1, if_pos c2]) (by decide) (by decide) H6
      · rw [if_neg (by simpa using c2)]
        refine r_cons ?_
        refine r_if ?_
        refine t_cmp ?_
        repeat (first | (with_reducible first|refine ld_goc_2 ‹_› ?_|refine ld_goc_5 ‹_› ?_) | (with_reducible first|refine t_bool ?_|refine c_lt ?_))
        by_cases c3 : j < b.2.1
        · rw [if_pos (by simpa using c3)]
          refine r_cons ?_
          refine r_assign ?_
          refine e_str fun tk1 t10 => ?_
          (with_reducible refine st_goc_7 ‹_› ?_); intro h6 t11 H6
          refine r_nil (r_nil (r_nil ?_))
          exact st2 "insert" h6 _ tk1 (by unfold tg; rw [if_neg c1, if_neg c2, if_pos c3]) (by decide) (by decide) H6
        · rw [if_neg (by simpa using c3)]
          refine r_nil (r_nil (r_nil ?_))
          exact st2 "" h4 _ tk0 (by unfold tg; rw [if_neg c1, if_neg c2, if_neg c3]) (by decide) (by decide) H4
  · have : x = bs.length := by (first|lia|omega)
    subst this
    refine nx_list_end 0 hA.hh H rfl hi (lo_isList (H.mem (in3 hBL))) (by simp [hml]) fun h1 H1 => ?_
    dsimp only [List.eraseIdx] at H1 ⊢
    refine y h1 t ans kn rest _ _ _ _ _ _ H1 ?_ hn
    rw [List.drop_length] at hm
    simp only [codesOf, List.append_nil] at hm
    rw [← hm]; exact O
end
section
variable {w : World} {A : Around} {gs : Array GenState} {dr : Drawn} {os : OsState} {g h : Heap} {t : Nat} {d u : Nat} {L : Addr}
set_option maxHeartbeats 4000000 in
theorem goc_ok {a b : Str} {ta tb : Tok} {mt dm D J : Addr} {es : List DictEntry} {nd c n : Nat} {vs : List (Option Value)} {res : List Bk} {Q : Value → Shared → Prop} {js : Array (Int × Value)} {jp : Nat} {jt : SetTable}
    (B : Bs w g) (kg : Ext g h) (hs : g.objs.size ≤ h.objs.size) (hA : AOk A d u) (hd : d + 4 < recursionLimit) (hu : u + 7 < cLine) (hm : g.get? mt = some (instObj 249 dm)) (hdn : g.get? dm = none) (hdm : h.get? dm = some (dictOf es nd)) (at_ : Att es vs c) (hc : c ≤ 800)
    (ea : vs[1]? = some (some (.str a ta))) (eb : vs[2]? = some (some (.str b tb))) (eM : vs[4]? = some (some .none)) (eO : vs[5]? = some (some .none)) (eD : vs[7]? = some (some (.ref D))) (eJ : vs[8]? = some (some (.ref J)))
    (hD : B2J w g D b.cps.toList) (hJ : g.get? J = some (sO js jp jt)) (hJ' : g.SetOf (strKind pw w) J (fun _ => false) 0) (ha : a.length ≤ 1000) (hb : b.length ≤ 1000)
    (R : Runs a.cps.toList b.cps.toList (some (0, a.length, 0, b.length)) [] res n) (h2 : res.length ≤ 2) (hne : ∀ p q, res = [p, q] → p.1 ≠ q.1)
    (hbl : (blocksOf (Asc res) a.length b.length).length ≤ 100)
    (y : ∀ (AN : Addr) (h' : Heap) (t' : Nat) (ans : List Value) (k' : Nat) (rest' : List (Addr × Obj)) (es' : List DictEntry) (nd' : Nat) (vs' : List (Option Value)), ExtB dm h h' → h'.get? dm = some (dictOf es' nd') → Nw h h' ((AN, lObj ans.toArray k') :: rest') → Att es' vs' (c + 2) → vs'.take 4 = vs.take 4 → vs'.drop 6 = vs.drop 6 → vs'[5]? = some (some (.ref AN)) →
      Ops rest' ans (codesOf 0 0 (blocksOf (Asc res) a.length b.length)) → ans.length ≤ 200 → Q (.ref AN) ⟨h', gs, dr, t', os⟩) :
    WP w A (call (.ref 217) [.ref mt]) Q ⟨h, gs, dr, t, os⟩ := by
  obtain ⟨g', B', k1, k2, e1, e2, e3⟩ := lift B kg hs hdn hdm
  refine enter (vs := [.ref mt]) (ns := ns_goc) (news := [(dm, dictOf es nd)]) g' B' k2 (Nat.le_of_eq e1) (by intro p hp; simp at hp; subst hp; exact ⟨hdm, e2⟩) (by simp) hA (by (first|lia|omega)) ok_goc (lk_217 _) (cd_217 _) (.of_eq (by kernel_rfl!)) (by kernel_rfl!) (by kernel_rfl!) (by kernel_rfl!) ?_
  intro h1 t1 H kk
  change WP w _ (execs (bodyOf (me 8 8)) (env_goc h.objs.size)) _ _
  have hA1 := hA.deeper (envOf (Str.ofString "SequenceMatcher.get_opcodes") (scoOf (me 8 8)) h.objs.size 217 (.ref 216))
  generalize A.deeper _ = A1 at hA1 ⊢
  change Hp g' h.objs.size h1 (LV ns_goc [some (.ref mt), none, none, none, none, none, none, none]) [(dm, dictOf es nd)] at H
  have hm' := k1 _ _ hm
  refine r_cons ?_
  refine r_expr ?_
  (with_reducible refine e_str ?_; intro _ _)
  refine r_cons ?_
  refine r_if ?_
  refine t_cmp ?_
  refine e_attr ?_
  (with_reducible refine ld_goc_0 ‹_› ?_)
  refine m_getA 0 5 B' H (H.F.keep _ _ hm') rfl at_ rfl eO (fi_op _) rfl fun t2 => ?_
  refine g_go ?_
  refine e_none ?_
  refine isn_none ?_
  refine t_bool ?_
  rw [if_neg (by decide)]
  refine r_nil ?_
  refine r_cons ?_
  refine r_two ?_
  refine e_int fun tz t3 => ?_
  refine a_name ?_
  (with_reducible refine st_goc_1 ‹_› ?_); intro h3 t4 H3
  refine a_name ?_
  (with_reducible refine st_goc_2 ‹_› ?_); intro h4 t5 H4
  refine r_cons ?_
  refine r_two ?_
  refine e_list ?_
  refine sp_nil ?_
  refine n_list H4 fun AN h5 hAN H5 => ?_
  refine a_attr ?_
  (with_reducible refine ld_goc_0 ‹_› ?_)
  refine m_set 1 5 B' H5 (H5.F.keep _ _ hm') rfl at_ rfl (by (first|lia|omega)) fun h6 t6 es6 nd6 at6 H6 => ?_
  dsimp only [List.set] at H6
  refine a_name ?_
  (with_reducible refine st_goc_3 ‹_› ?_); intro h7 t7 H7
  refine r_cons ?_
  refine r_for ?_
  refine e_meth ?_
  (with_reducible refine ld_goc_0 ‹_› ?_)
  have M7 : Mat h7 mt dm es6 nd6 := ⟨H7.F.keep _ _ hm', H7.at 1 rfl, at6.s⟩
  refine m_gmb B' H7 M7 (by rw [at6.l]; exact LV_none (by decide)) ?_
  refine call_self0 ?_
  refine keep_fn (H7.F.keep _ _ (B'.K _ _ (lk_210 _))) rfl ?_
  have sz : g'.objs.size ≤ h7.objs.size := Nat.le_trans H7.F.above (Nat.le_of_lt H7.ltL)
  have gv : ∀ (k : Nat) (v : Option Value), k ≠ 5 → vs[k]? = some v → (vs.set 5 (some (.ref AN)))[k]? = some v := fun k v hk e => by rw [List.getElem?_set_ne (Ne.symm hk)]; exact e
  refine gmb_ok B' H7.F.keep sz hA1 (by (first|lia|omega)) (by (first|lia|omega)) hm' e2 (H7.at 1 rfl) at6 (by (first|lia|omega)) (gv 1 _ (by decide) ea) (gv 2 _ (by decide) eb) (gv 4 _ (by decide) eM) (gv 7 _ (by decide) eD) (gv 8 _ (by decide) eJ) (hD.mono k1) (k1 _ _ hJ) (SetOf.mono k1 hJ') ha hb R h2 hne ?_
  intro BL h8 t8 acc k' rest8 es8 nd8 x1 x2 x3 at8 M8
  have H8 := H7.addAll 1 rfl x1 x2 x3
  dsimp only [List.set] at H8
  have H8' := H8.perm (List.perm_append_comm (l₁ := (BL, lObj acc.toArray k') :: rest8) (l₂ := [(AN, lObj #[] 0), (dm, dictOf es8 nd8)]))
  refine it_list H8' (lo_isList (H8'.mem (.tail _ (.tail _ (.head _))))) fun it h9 oi hi H9 => ?_
  refine codes_ok (BL := BL) (acc := acc) (kb := k') (bs := blocksOf (Asc res) a.length b.length) B' hA1 hbl ⟨h9, _, 0, 0, 0, [], [], 0, oi, _, _, _, none, none, none, none, rfl, rfl, Nat.zero_le _, H9, hi, .head _, M8.mono fun p hp => .tail _ hp, .nil, Nat.le_refl _, rfl⟩ ?_
  intro h10 t10 ans kn rest v1 v2 v4 v5 v6 v7 H10 O10 hn10
  refine r_cons ?_
  refine r_ret ?_
  (with_reducible refine ld_goc_3 ‹_› ?_)
  have H11 := H10.perm (.swap _ _ _)
  refine y AN h10 _ ans kn rest es8 nd8 _ (fun x o hx e => ?_) (H11.at 0 rfl) ⟨fun p hp => (H11.N p (.tail _ hp)).1, fun p hp => ?_, (List.nodup_cons.mp H11.nd).2⟩ at8 ?_ ?_ ?_ O10 (by (first|lia|omega))
  · exact H11.F.keep _ _ ((e3 x hx).trans e)
  · have hne2 : p.1 ≠ dm := fun z => (List.nodup_cons.mp H11.nd).1 (List.mem_map.mpr ⟨p, hp, z⟩)
    rw [← e3 _ hne2]
    exact (H11.N p (.tail _ hp)).2.2
  · rw [List.take_set_of_le (by (first|lia|omega)), List.take_set_of_le (by (first|lia|omega))]
  · rw [List.drop_set_of_lt (by (first|lia|omega)), List.drop_set_of_lt (by (first|lia|omega))]
  · rw [List.getElem?_set_ne (by decide), List.getElem?_set_self (by have := at_.len; have e : ns_att.length = 10 := rfl; (first|lia|omega))]
end
-- a dict of texts
noncomputable def SMp (w : World) (o : Obj) (f : Str → Option Value) (n : Nat) : Prop := ∃ es ep, o.ExactDict ∧ o.data = .dict es ep ∧ KeysOf (strKind pw w) es ∧ (∀ k, findBy (strKind pw w).is es k = f k) ∧ es.size ≤ n
theorem SMp.map {w : World} {h : Heap} {a : Addr} {o : Obj} {f : Str → Option Value} {n : Nat} (x : SMp w o f n) (ho : h.get? a = some o) : h.MapOf (strKind pw w) a f := let ⟨es, ep, c, d, k, e, _⟩ := x; ⟨o, es, ep, ho, c, d, k, e⟩
theorem smp_new {w : World} : SMp w { cls := .type "dict", data := .dict #[] } (fun _ => none) 0 := ⟨#[], 0, ⟨rfl, rfl, rfl⟩, rfl, fun _ he => by simp at he, fun _ => rfl, Nat.le_refl _⟩
section
variable {w : World} {A : Around} {gs : Array GenState} {dr : Drawn} {os : OsState} {g h h' : Heap} {L : Addr} {d u t : Nat} {m : Str → Option Value} {news : List (Addr × Obj)} {env : Env} {pos : Pos}
noncomputable def SdK (w : World) (d : Addr) (key dflt : Value) (R : Value → Shared → Prop) (s : Shared) : Prop := ∃ k o f n, (strKind pw w).is k key = true ∧ s.heap.get? d = some o ∧ SMp w o f n ∧ n ≤ 1000 ∧ (∀ v, f k = some v → R v { s with toks := s.toks + 1 }) ∧
  (f k = none → ∀ h' o', h'.get? d = some o' → SMp w o' (fun x => if x = k then some dflt else f x) (n + 1) → Heap.SameBut d s.heap h' → R dflt { s with heap := h', toks := s.toks + 1 })
theorem setdef_of {d : Addr} {key dflt : Value} {Q : Value → Shared → Prop} {E : Value → Shared → Prop} {s : Shared} (y : SdK w d key dflt Q s) : wpAny (model pw w) A (dictSetDefault d key dflt) Q E s := by
  obtain ⟨k, o, f, n, hkey, ho, ⟨es, ep, hc, hd, hk, hf, hsz⟩, hn, hthere, hnew⟩ := y
  unfold dictSetDefault
  try with_reducible refine wpAny_holding ?_
  refine wpAny_bind ((strKind pw w).pyHash hkey ?_)
  refine wpAny_bind (wpAny_dictFind_of (s := { s with toks := s.toks + 1 }) hkey ho hd hk ?_)
  cases hi : es.findIdx? fun e => (strKind pw w).is k e.key with
  | some i =>
    have hfk : f k = (es[i]?).map (·.val) := by rw [← hf k, findBy_of_findIdx?, hi]
    refine wpAny_bind (wpAny_dictEntries (s := { s with toks := s.toks + 1 }) ho hd ?_)
    cases he : es[i]? with
    | none =>
      exfalso
      have := Array.findIdx?_eq_some_iff_findIdx_eq.mp hi
      rw [Array.getElem?_eq_getElem this.1] at he
      exact nomatch he
    | some e =>
      rw [he] at hfk
      exact wpAny_bind (wpAny_rule (wpAny_pure (hthere e.val hfk)))
  | none =>
    have hfk : f k = none := by rw [← hf k, findBy_of_findIdx?, hi]
    refine wpAny_bind (wpAny_rule (wpAny_bind (wpAny_updateDictKeys (hz := by rw [sizeLine_eq]; (first|lia|omega)) (s := { s with toks := s.toks + 1 }) ho hd (wpAny_pure (hnew hfk _ _ (Heap.get?_update_self _ ho (Obj.isFreed_of_dict (Obj.data_mapDictKeys hd _)))
      ⟨_, ep + 1, hc.mapDictKeys _, Obj.data_mapDictKeys hd _, hk.push hkey _, fun x => ?_, ?_⟩ (Heap.SameBut.update ..))))))
    · rw [findBy_push (strKind pw w).is es k x _ _ dflt (KeyKind.is_eq_decide hkey) hi, hf]
    · rw [Array.size_push]; (first|lia|omega)
theorem cw_setdef {d : Addr} {e1 e2 : Expr} {Q : Value → Shared → Prop} {s : Shared} (hd : (d == sysModules) = false)
    (y : WP w A (eval e1 env) (fun key s₁ => WP w A (eval e2 env) (fun dflt s₂ => SdK w d key dflt Q s₂) s₁) s)
    (he : backTo pos (starEach [e1, e2] env) = [(false, eval e1 env), (false, eval e2 env)] := by with_unfolding_all rfl) : WP w A (callWith pos (.builtin "dict.setdefault") [.ref d] (backTo pos (starEach [e1, e2] env)) []) Q s := by
  rw [he]
  refine method2_meetsIn F.slot_dict_setdefault F.entry_dict_setdefault (wpAny_mono y (fun key _ h₁ => wpAny_mono h₁ (fun dflt s₂ h₂ => ?_) fun _ _ e => e) fun _ _ e => e)
  obtain ⟨k, o, f, n, hkey, ho, hS, r⟩ := id h₂
  have hm : s₂.heap.MapOf (strKind pw w) d f := hS.map ho
  refine ⟨hm.typeIs, F.args_dict_setdefault_3 _ _ _, fun _ R s => s.heap.MapOf (strKind pw w) d f ∧ SdK w d key dflt (fun v s' => R (.ok (.ret v)) s') s, ?_, hm, h₂⟩
  refine .of_wp fun A R s hh => ?_
  obtain ⟨hm, hh⟩ := hh
  unfold Builtin.«dict.setdefault»
  refine wpAny_bind ?_
  unfold Builtin.Dict.keyAndDefault
  refine wpAny_bind (wpAny_notOrdered_dict hm.typeIs ?_)
  show wpAny _ _ (pure (d, key, some dflt)) _ _ s
  refine wpAny_pure ?_
  show wpAny _ _ (if (d == sysModules) = true then _ else (dictSetDefault d key dflt >>= _)) _ _ s
  rw [if_neg (by rw [hd]; exact Bool.false_ne_true)]
  refine wpAny_bind (setdef_of ?_)
  obtain ⟨k, o, f, n, hkey, ho, hS, hn, h1, h2⟩ := hh
  exact ⟨k, o, f, n, hkey, ho, hS, hn, fun v hv => wpAny_pure ⟨v, rfl, h1 v hv⟩, fun hn h' o' e1 e2 e3 => wpAny_pure ⟨dflt, rfl, h2 hn h' o' e1 e2 e3⟩⟩
theorem m_setdef {D : Addr} {o : Obj} {f : Str → Option Value} {n : Nat} {pl : Sem Bool} {Q : Value × List Value → Shared → Prop} (e : h.get? D = some o) (x : SMp w o f n) (y : Q (.builtin "dict.setdefault", [.ref D]) ⟨h, gs, dr, t, os⟩) :
    WP w A (getMethod (.ref D) (Str.ofString "setdefault") pl) Q ⟨h, gs, dr, t, os⟩ :=
  getMethod_builtin (T := "dict") (s := ⟨h, gs, dr, t, os⟩) (x.map e).typeIs F.plainAttrs_dict F.slot_dict_setdefault F.type_dict_setdefault (x.map e).noDict y
-- the enumeration of a text
noncomputable def IsSI (o : Obj) (x : Str) (tk : Tok) (i : Nat) : Prop := o.cls = .type (strIterType x) ∧ o.data = .fields #[.str x tk, .int i 0]
noncomputable abbrev enO (it : Addr) (i : Int) (old : Value) : Obj := { cls := .type "enumerate", dict := none, data := .fields #[.none, .bool false, .ref it, rawInt i, .none, old], slots := #[] }
noncomputable abbrev enOut (it : Addr) (i : Int) (item : Value) (a : Addr) : Obj := { cls := .type "enumerate", dict := none, data := .fields #[rawInt a, .bool false, .ref it, rawInt i, .none, item], slots := #[] }
theorem Hp.addNw {nw : List (Addr × Obj)} (H : Hp g L h m news) (k : Ext h h') (n : Nw h h' nw) : Hp g L h' m (nw ++ news) := by
  have H' := H.ext k
  refine ⟨H'.F, fun p hp => ?_, ?_⟩
  · rcases List.mem_append.mp hp with hp | hp
    · refine ⟨n.at_ p hp, fun z => ?_, ?_⟩
      · obtain ⟨oL, _, _, hL, _⟩ := H.F.ns
        have := n.new p hp
        rw [z, hL] at this; cases this
      · cases q : g.get? p.1 with
        | none => rfl
        | some x => have := n.new p hp; rw [H.F.keep _ _ q] at this; cases this
    · exact H'.N p hp
  · rw [List.map_append, List.nodup_append]
    refine ⟨n.nd, H'.nd, ?_⟩
    intro x hx y hy
    obtain ⟨p, hp, rfl⟩ := List.mem_map.mp hx
    obtain ⟨q, hq, rfl⟩ := List.mem_map.mp hy
    intro z
    have := n.new p hp
    rw [z, (H.N q hq).1] at this; cases this
theorem Hp.chg2 {e it : Addr} {oe oi oe' oi' : Obj} (H : Hp g L h m ((e, oe) :: (it, oi) :: news)) (k : ∀ b o, b ≠ e → b ≠ it → h.get? b = some o → h'.get? b = some o) (h1 : h'.get? e = some oe') (h2 : h'.get? it = some oi') : Hp g L h' m ((e, oe') :: (it, oi') :: news) := by
  have n1 := List.nodup_cons.mp H.nd
  have n2 := List.nodup_cons.mp n1.2
  have a1 := H.ne 0 rfl
  have a2 := H.ne 1 rfl
  have b1 := H.new 0 rfl
  have b2 := H.new 1 rfl
  obtain ⟨oL, es, ep, hL, r⟩ := H.F.ns
  refine ⟨⟨⟨oL, es, ep, k _ _ a1.symm a2.symm hL, r⟩, fun b x q => k _ _ (fun z => by rw [z, b1] at q; cases q) (fun z => by rw [z, b2] at q; cases q) (H.F.keep b x q), H.F.above⟩, fun p hp => ?_, H.nd⟩
  rcases List.mem_cons.mp hp with rfl | hp
  · exact ⟨h1, a1, b1⟩
  · rcases List.mem_cons.mp hp with rfl | hp
    · exact ⟨h2, a2, b2⟩
    · have := H.N p (.tail _ (.tail _ hp))
      exact ⟨k _ _ (fun z => n1.1 (List.mem_map.mpr ⟨p, .tail _ hp, z⟩)) (fun z => n2.1 (List.mem_map.mpr ⟨p, hp, z⟩)) this.1, this.2⟩
theorem Hp.addAt {T : Addr} {o : Obj} (H : Hp g L h m news) (hT : h.get? T = some o) (hL : T ≠ L) (hg : g.get? T = none) (hn : ∀ p ∈ news, p.1 ≠ T) : Hp g L h m ((T, o) :: news) :=
  ⟨H.F, fun p hp => by
    rcases List.mem_cons.mp hp with rfl | hp
    · exact ⟨hT, hL, hg⟩
    · exact H.N p hp, List.nodup_cons.mpr ⟨fun z => by obtain ⟨p, hp, e⟩ := List.mem_map.mp z; exact hn p hp e, H.nd⟩⟩
theorem en_new {x : Str} {tk : Tok} {Q : Value → Shared → Prop} (H : Hp g L h m news) (y : ∀ e it oi h', IsSI oi x tk 0 → Hp g L h' m ((e, enO it 0 .none) :: (it, oi) :: news) → Q (.ref e) ⟨h', gs, dr, t, os⟩) : WP w A (call (.type "enumerate") [.str x tk]) Q ⟨h, gs, dr, t, os⟩ := by
  refine call_enumerate_str (s := ⟨h, gs, dr, t, os⟩) fun h' he hi hz k => ?_
  obtain ⟨oi, ho, hc, hd⟩ := hi
  have n : Nw h h' [(h.objs.size + 1, enO h.objs.size 0 .none), (h.objs.size, oi)] := by
    refine ⟨fun p hp => ?_, fun p hp => ?_, by simp⟩
    · simp at hp
      rcases hp with rfl | rfl
      · exact he
      · exact ho
    · simp at hp
      rcases hp with rfl | rfl
      · exact none_of_ge (Nat.le_succ _)
      · exact none_of_ge (Nat.le_refl _)
  exact y _ _ oi h' ⟨hc, hd⟩ (H.addNw k n)
theorem drawsS (hh : A.handled = none) (it : Addr) (x : Str) (tk : Tok) : Draws pw w A it [it] x.cps.size (fun i v => ∃ c u, x.cps[i]? = some c ∧ v = .str ⟨#[c]⟩ u) (fun i h => h.IsStrIter it (strIterType x) x tk i) := by
  unfold strIterType
  split
  · exact Draws.strAscii hh it x tk
  · exact Draws.strWide hh it x tk
theorem en_next {e it : Addr} {oi : Obj} {x : Str} {tk : Tok} {i : Nat} {old : Value} {Q : Option Value → Shared → Prop} (hh : A.handled = none) (H : Hp g L h m ((e, enO it i old) :: (it, oi) :: news)) (hi : IsSI oi x tk i) (hlt : i < x.length)
    (y : ∀ c T h' t' tki tkc oi' item, x.cps.toList[i]? = some c → IsSI oi' x tk (i + 1) → Hp g L h' m ((T, tObj [.int (i : Nat) tki, .str ⟨#[c]⟩ tkc]) :: (e, enOut it ((i : Int) + 1) item T) :: (it, oi') :: news) → Q (some (.ref T)) ⟨h', gs, dr, t', os⟩) : WP w A (pyNext (.ref e)) Q ⟨h, gs, dr, t, os⟩ := by
  have hne : e ≠ it := H.ne2 0 1 (by decide) rfl rfl
  refine wpAny_pyNext_enum_itemD (s := ⟨h, gs, dr, t, os⟩) (drawsS (A := A.in1) hh it x tk) (H.at 0 rfl) ⟨oi, H.at 1 rfl, hi.1, hi.2⟩ hlt hne (by simpa using hne) fun v h' tk' hP ho hs' hT hz hk => ?_
  obtain ⟨c, u, hc, rfl⟩ := hP
  obtain ⟨oi', q1, q2, q3⟩ := hs'
  have H1 := H.chg2 hk ho q1
  have lt : ∀ p ∈ (e, enO it i old) :: (it, oi) :: news, p.1 < h.objs.size := fun p hp => Heap.lt_size (H.N p hp).1
  refine y c h.objs.size h' _ tk' u oi' _ (by rw [Array.getElem?_toList]; exact hc) ⟨q2, q3⟩ (H1.addAt hT (Nat.ne_of_gt H.ltL) (none_of_ge (Nat.le_trans H.F.above (Nat.le_of_lt H.ltL))) fun p hp => ?_)
  have : p.1 < h.objs.size := by
    rcases List.mem_cons.mp hp with rfl | hp
    · exact lt (e, enO it i old) (.head _)
    · rcases List.mem_cons.mp hp with rfl | hp
      · exact lt (it, oi) (.tail _ (.head _))
      · exact lt p (.tail _ (.tail _ hp))
  exact Nat.ne_of_lt this
theorem en_go {elts : List Expr} {k : Nat} {p : Pos} {e it T : Addr} {i : Int} {item : Value} {o : Obj} {Q : Unit → Shared → Prop} (H : Hp g L h m ((T, o) :: (e, enOut it i item T) :: news)) (y : ∀ h', Hp g L h' m ((T, o) :: (e, enO it i item) :: news) → Q () ⟨h', gs, dr, t, os⟩) :
    WP w A (letOwnedTupleGo (.Tuple elts k p) (.ref e) (.ref T)) Q ⟨h, gs, dr, t, os⟩ :=
  wpAny_letOwnedTupleGo_enum (s := ⟨h, gs, dr, t, os⟩) (H.at 1 rfl) fun h' he hs => y h' (H.put 1 rfl hs he)
theorem en_end {e it : Addr} {oi : Obj} {x : Str} {tk : Tok} {i : Nat} {old : Value} {Q : Option Value → Shared → Prop} (hh : A.handled = none) (H : Hp g L h m ((e, enO it i old) :: (it, oi) :: news)) (hi : IsSI oi x tk i) (hlt : i = x.length)
    (y : ∀ h', Hp g L h' m news → Q none ⟨h', gs, dr, t, os⟩) : WP w A (pyNext (.ref e)) Q ⟨h, gs, dr, t, os⟩ := by
  subst hlt
  refine wpAny_pyNext_enum_endD (s := ⟨h, gs, dr, t, os⟩) (drawsS (A := A.in1) hh it x tk) (H.at 0 rfl) ⟨oi, H.at 1 rfl, hi.1, hi.2⟩ fun h' hk => ?_
  exact y h' ((H.lose 1 rfl fun b o hb q => hk b o hb q).drop 0)
end
theorem places_snoc (c c0 : Nat) (bs : List Nat) : places c (bs ++ [c0]) = places c bs ++ (if c0 = c then [bs.length] else []) := by
  unfold places
  rw [List.length_append, List.length_singleton, List.range_succ, List.filter_append]
  congr 1
  · refine List.filter_congr fun j hj => ?_
    rw [List.getElem?_append_left (List.mem_range.mp hj)]
  · by_cases q : c0 = c
    · subst q; simp
    · simp [q]
theorem mem_set_other {l : List (Addr × Obj)} {i : Nat} {p : Addr × Obj} {a : Addr} {o o' : Obj} (e : l[i]? = some (a, o)) (hp : p ∈ l) (hne : p.1 ≠ a) : p ∈ l.set i (a, o') := by
  obtain ⟨j, hj, hp⟩ := List.getElem_of_mem hp
  have hij : i ≠ j := by
    rintro rfl
    rw [List.getElem?_eq_getElem hj, hp] at e
    exact hne (by rw [Option.some.inj e])
  have : (l.set i (a, o'))[j]? = some p := by rw [List.getElem?_set_ne hij, List.getElem?_eq_getElem hj, hp]
  exact List.mem_of_getElem? this
structure Tab (lst : List (Addr × Obj)) (f : Str → Option Value) (bs : List Nat) : Prop where
  ent : ∀ c, (∃ l vs k, f ⟨#[c]⟩ = some (.ref l) ∧ (l, lObj (vs : List Value).toArray k) ∈ lst ∧ IntsAre vs ((places c bs).map Int.ofNat)) ∨ (f ⟨#[c]⟩ = none ∧ places c bs = [])
  inj : ∀ c c' l, f ⟨#[c]⟩ = some (.ref l) → f ⟨#[c']⟩ = some (.ref l) → c = c'
theorem c1inj {c c0 : Nat} (h : (⟨#[c]⟩ : Str) = ⟨#[c0]⟩) : c = c0 := by
  injection h with h
  have := congrArg (fun a => a[0]?) h
  simpa using this
theorem Tab.nil {lst : List (Addr × Obj)} : Tab lst (fun _ => none) [] := ⟨fun c => .inr ⟨rfl, rfl⟩, fun _ _ _ e => by cases e⟩
theorem Tab.mono {lst lst' : List (Addr × Obj)} {f : Str → Option Value} {bs : List Nat} (T : Tab lst f bs) (h : ∀ p ∈ lst, p ∈ lst') : Tab lst' f bs :=
  ⟨fun c => (T.ent c).imp (fun ⟨l, vs, k, e1, e2, e3⟩ => ⟨l, vs, k, e1, h _ e2, e3⟩) id, T.inj⟩
theorem Tab.fresh {lst : List (Addr × Obj)} {f : Str → Option Value} {bs : List Nat} {c0 k : Nat} {NL : Addr} {tk : Tok} (T : Tab lst f bs) (hn : f ⟨#[c0]⟩ = none) (hN : ∀ p ∈ lst, p.1 ≠ NL) :
    Tab ((NL, lObj #[Value.int ((bs.length : Nat) : Int) tk] k) :: lst) (fun x => if x = ⟨#[c0]⟩ then some (.ref NL) else f x) (bs ++ [c0]) := by
  have hp : places c0 bs = [] := by
    rcases T.ent c0 with ⟨l, vs, k, e, _⟩ | ⟨_, e⟩
    · rw [hn] at e; cases e
    · exact e
  refine ⟨fun c => ?_, fun c c' l e1 e2 => ?_⟩
  · by_cases q : c0 = c
    · subst q
      refine .inl ⟨NL, [Value.int ((bs.length : Nat) : Int) tk], k, if_pos rfl, .head _, ?_⟩
      rw [places_snoc, hp, if_pos rfl]
      exact .cons _ _ .nil
    · have q' : (⟨#[c]⟩ : Str) ≠ ⟨#[c0]⟩ := fun z => q (c1inj z).symm
      rcases T.ent c with ⟨l, vs, k', e1, e2, e3⟩ | ⟨e1, e2⟩
      · exact .inl ⟨l, vs, k', (if_neg q').trans e1, .tail _ e2, by rw [places_snoc, if_neg q, List.append_nil]; exact e3⟩
      · exact .inr ⟨(if_neg q').trans e1, by rw [places_snoc, if_neg q, e2]; rfl⟩
  · by_cases q : (⟨#[c]⟩ : Str) = ⟨#[c0]⟩
    · by_cases q' : (⟨#[c']⟩ : Str) = ⟨#[c0]⟩
      · exact c1inj (q.trans q'.symm)
      · rw [if_pos q] at e1; rw [if_neg q'] at e2
        injection e1 with e1; injection e1 with e1
        rcases T.ent c' with ⟨l', vs, k', e3, e4, _⟩ | ⟨e3, _⟩
        · rw [e2] at e3; injection e3 with e3; injection e3 with e3
          exact absurd (e3.symm.trans e1.symm) (hN _ e4)
        · rw [e2] at e3; cases e3
    · rw [if_neg q] at e1
      by_cases q' : (⟨#[c']⟩ : Str) = ⟨#[c0]⟩
      · rw [if_pos q'] at e2
        injection e2 with e2; injection e2 with e2
        rcases T.ent c with ⟨l', vs, k', e3, e4, _⟩ | ⟨e3, _⟩
        · rw [e1] at e3; injection e3 with e3; injection e3 with e3
          exact absurd (e3.symm.trans e2.symm) (hN _ e4)
        · rw [e1] at e3; cases e3
      · rw [if_neg q'] at e2
        exact T.inj c c' l e1 e2
theorem Tab.more {lst : List (Addr × Obj)} {f : Str → Option Value} {bs : List Nat} {c0 k i : Nat} {l : Addr} {vs : List Value} {tk : Tok} (T : Tab lst f bs) (nd : (lst.map (·.1)).Nodup) (hs : f ⟨#[c0]⟩ = some (.ref l)) (hi : lst[i]? = some (l, lObj vs.toArray k)) (hv : IntsAre vs ((places c0 bs).map Int.ofNat)) :
    Tab (lst.set i (l, lObj (vs ++ [Value.int ((bs.length : Nat) : Int) tk]).toArray (k + 1))) f (bs ++ [c0]) := by
  refine ⟨fun c => ?_, T.inj⟩
  by_cases q : c0 = c
  · subst q
    refine .inl ⟨l, vs ++ [Value.int ((bs.length : Nat) : Int) tk], k + 1, hs, ?_, ?_⟩
    · refine List.mem_of_getElem? (i := i) ?_
      rw [List.getElem?_set_self (List.getElem?_eq_some_iff.mp hi).1]
    · rw [places_snoc, if_pos rfl, List.map_append]
      exact hv.append (.cons _ _ .nil)
  · rcases T.ent c with ⟨l', vs', k', e1, e2, e3⟩ | ⟨e1, e2⟩
    · refine .inl ⟨l', vs', k', e1, mem_set_other hi e2 ?_, by rw [places_snoc, if_neg q, List.append_nil]; exact e3⟩
      rintro (rfl : l' = l)
      exact q (T.inj _ _ _ hs e1)
    · exact .inr ⟨e1, by rw [places_snoc, if_neg q, e2]; rfl⟩
noncomputable def cforB : List Stmt := loopB (nthS (bodyOf (me 8 5)) 2)
noncomputable def cforT : Expr := match nthS (bodyOf (me 8 5)) 2 with | .For t .. => t | _ => .Constant .none 0 default
noncomputable def CI (w : World) (gs : Array GenState) (dr : Drawn) (os : OsState) (g : Heap) (L : Addr) (b : Str) (tb : Tok) (D dm e it : Addr) (odm : Obj) (v0 : Option Value) (n : Nat) (s : Shared) : Prop :=
  ∃ (h : Heap) (t x k : Nat) (f : Str → Option Value) (old : Value) (oi od : Obj) (lst : List (Addr × Obj)) (v3 v4 v5 : Option Value), s = ⟨h, gs, dr, t, os⟩ ∧ n = b.length - x ∧ x ≤ b.length ∧
    Hp g L h (LV ns_chain [v0, some (.str b tb), some (.ref D), v3, v4, v5, none, none, none, none, none, none]) ((e, enO it (x : Nat) old) :: (it, oi) :: (D, od) :: (dm, odm) :: lst) ∧
    IsSI oi b tb x ∧ SMp w od f k ∧ k ≤ x ∧ Tab lst f (b.cps.toList.take x)
theorem CI.mk {w : World} {gs : Array GenState} {dr : Drawn} {os : OsState} {g : Heap} {L : Addr} {b : Str} {tb : Tok} {D dm e it : Addr} {odm : Obj} {v0 : Option Value} {n : Nat} {h : Heap} {t k : Nat} {f : Str → Option Value} {old : Value} {oi od : Obj} {lst : List (Addr × Obj)} {v3 v4 v5 : Option Value} (x : Nat) (p0 : n = b.length - x) (p1 : x ≤ b.length) (p2 : Hp g L h (LV ns_chain [v0, some (.str b tb), some (.ref D), v3, v4, v5, none, none, none, none, none, none]) ((e, enO it (x : Nat) old) :: (it, oi) :: (D, od) :: (dm, odm) :: lst)) (p3 : IsSI oi b tb x) (p4 : SMp w od f k) (p5 : k ≤ x) (p6 : Tab lst f (b.cps.toList.take x)) : CI w gs dr os g L b tb D dm e it odm v0 n ⟨h, gs, dr, t, os⟩ :=
  ⟨h, t, x, k, f, old, oi, od, lst, v3, v4, v5, rfl, p0, p1, p2, p3, p4, p5, p6⟩
section
variable {w : World} {A : Around} {gs : Array GenState} {dr : Drawn} {os : OsState} {g h : Heap} {L : Addr} {d u t : Nat}
set_option maxHeartbeats 4000000 in
theorem chain_loop {b : Str} {tb : Tok} {D dm e it : Addr} {odm : Obj} {v0 : Option Value} {Q : Flow → Shared → Prop} {s : Shared} (B : Bs w g) (hA : AOk A d u) (hb : b.length ≤ 1000) (hD : (D == sysModules) = false)
    (I0 : CI w gs dr os g L b tb D dm e it odm v0 b.length s)
    (y : ∀ (h : Heap) (t k : Nat) (f : Str → Option Value) (od : Obj) (lst : List (Addr × Obj)) (v3 v4 v5 : Option Value), Hp g L h (LV ns_chain [v0, some (.str b tb), some (.ref D), v3, v4, v5, none, none, none, none, none, none]) ((D, od) :: (dm, odm) :: lst) →
      SMp w od f k → Tab lst f b.cps.toList → Q .next ⟨h, gs, dr, t, os⟩) :
    ForK w A (env_chain L) cforT cforB (.ref e) Q s := by
  refine for_invT (CI w gs dr os g L b tb D dm e it odm v0) (fun n s C hC hI => ?_) _ I0
  obtain ⟨h, t, x, k, f, old, oi, od, lst, v3, v4, v5, rfl, rfl, hx, H, hi, hS, hk, T⟩ := hI
  have hcl : b.cps.toList.length = b.length := Array.length_toList
  by_cases hlt : x < b.length
  · refine en_next hA.hh H hi hlt fun c Tu h1 t1 tki tkc oi' item hc hi' H1 => ?_
    refine en_go H1 fun h2 H2 => ?_
    refine a_tupK [(Str.ofString "i", _), (Str.ofString "elt", _)] hA.hh H2 (H2.at 0 rfl) (by with_unfolding_all rfl) (by with_unfolding_all rfl) (by with_unfolding_all rfl) fun h3 k3 H3 => ?_
    dsimp only [List.map]
    repeat (first | (with_reducible refine stn_cons ?_) | with_reducible refine stn_nil ?_ | ((with_reducible first|refine st_chain_3 ‹_› ?_|refine st_chain_4 ‹_› ?_); intro _ _ _))
    rename_i h4 t4 H4
    change WP w A (execs (loopB (nthS (bodyOf (me 8 5)) 2)) (env_chain L)) _ _
    have htake : b.cps.toList.take (x + 1) = b.cps.toList.take x ++ [c] := by
      rw [List.take_add_one, hc]; rfl
    have hlen : (b.cps.toList.take x).length = x := by rw [List.length_take]; (first|lia|omega)
    have H4' := H4.perm (mp5 _ _ _ _ _ _)
    refine r_cons ?_
    refine r_assign ?_
    refine e_meth ?_
    (with_reducible refine ld_chain_2 ‹_› ?_)
    refine m_setdef (H4.at 3 rfl) hS ?_
    refine cw_setdef hD ?_
    (with_reducible refine ld_chain_4 ‹_› ?_)
    refine e_list ?_
    refine sp_nil ?_
    refine n_list H4 fun NL h5 hNL H5 => ?_
    have hcast : ((x : Int) + 1) = ((x + 1 : Nat) : Int) := by (first|lia|omega)
    refine ⟨⟨#[c]⟩, od, f, k, strKind_is pw w _ _, H5.at 4 rfl, hS, by (first|lia|omega), fun v hv => ?_, fun hn h6 od' q1 q2 q3 => ?_⟩
    · rcases T.ent c with ⟨l, vs, kl, e1, e2, e3⟩ | ⟨e1, _⟩
      · rw [e1] at hv
        injection hv with hv
        subst hv
        obtain ⟨i, hil, hie⟩ := List.getElem_of_mem e2
        have hi0 : lst[i]? = some (l, lObj vs.toArray kl) := by rw [List.getElem?_eq_getElem hil, hie]
        (with_reducible refine st_chain_5 ‹_› ?_); intro h7 t7 H7
        refine r_cons ?_
        refine r_expr ?_
        refine e_meth ?_
        (with_reducible refine ld_chain_5 ‹_› ?_)
        have hi6 : ((NL, lObj [].toArray 0) :: (Tu, tObj [.int (x : Nat) tki, .str ⟨#[c]⟩ tkc]) :: (e, enO it ((x : Int) + 1) item) :: (it, oi') :: (D, od) :: (dm, odm) :: lst)[i + 6]? = some (l, lObj vs.toArray kl) := by simpa using hi0
        refine m_append (H7.at (i + 6) hi6) ?_
        refine cw_append ?_
        (with_reducible refine ld_chain_3 ‹_› ?_)
        have hvl : vs.length ≤ 1000 := by
          have := e3.length
          have h2 : (places c (b.cps.toList.take x)).length ≤ x := by
            refine Nat.le_trans (List.length_filter_le _ _) ?_
            rw [List.length_range, hlen]; exact Nat.le_refl _
          simp at this
          (first|lia|omega)
        refine k_append (i + 6) H7 hi6 (by simpa using hvl) fun h8 H8 => ?_
        dsimp only [List.set] at H8
        rw [List.push_toArray] at H8
        refine r_nilT ?_
        refine hC (b.length - (x + 1)) _ (by (first|lia|omega)) (CI.mk (x + 1) rfl (by (first|lia|omega)) (by rw [← hcast]; exact H8.skip 2) hi' hS (by (first|lia|omega)) ?_)
        rw [htake]
        have nd : (lst.map (·.1)).Nodup := (H7.skip 6).nd
        have := T.more (tk := tki) nd e1 hi0 e3
        rw [hlen] at this
        exact this
      · rw [e1] at hv; cases hv
    · have H6 := H5.put 4 rfl q3 q1
      dsimp only [List.set] at H6
      (with_reducible refine st_chain_5 ‹_› ?_); intro h7 t7 H7
      refine r_cons ?_
      refine r_expr ?_
      refine e_meth ?_
      (with_reducible refine ld_chain_5 ‹_› ?_)
      refine m_append (H7.at 0 rfl) ?_
      refine cw_append ?_
      (with_reducible refine ld_chain_3 ‹_› ?_)
      refine k_append 0 H7 rfl (Nat.zero_le _) fun h8 H8 => ?_
      dsimp only [List.set] at H8
      rw [List.push_toArray] at H8
      have H9 := (H8.perm (show _ from List.Perm.swap _ _ _)).drop 0
      dsimp only [List.eraseIdx] at H9
      have H10 := H9.perm (mp5 _ _ _ _ _ _)
      refine r_nilT ?_
      refine hC (b.length - (x + 1)) _ (by (first|lia|omega)) (CI.mk (x + 1) rfl (by (first|lia|omega)) (by rw [← hcast]; exact H10) hi' q2 (by (first|lia|omega)) ?_)
      rw [htake]
      have := T.fresh (c0 := c) (NL := NL) (tk := tki) (k := 1) hn fun p hp z => by
        have := (List.nodup_cons.mp H7.nd).1
        exact this (List.mem_map.mpr ⟨p, .tail _ (.tail _ (.tail _ (.tail _ (.tail _ hp)))), z⟩)
      rw [hlen] at this
      exact this
  · have : x = b.length := by (first|lia|omega)
    subst this
    refine en_end hA.hh H hi rfl fun h1 H1 => ?_
    refine y h1 t k f od lst v3 v4 v5 H1 hS ?_
    rw [List.take_of_length_le (by (first|lia|omega))] at T
    exact T
end
theorem lk_195 (P : Params) : (KF P).lookup 195 = some (o195 P) := by kernel_rfl!
theorem cd_195 (P : Params) : codeIn (KF P) (.ref 194) (Str.ofString "SequenceMatcher.__chain_b") = true := by kernel_rfl!
theorem fm_chain (P : Params) : findIn (KF P) (.ref 249) (Str.ofString "_SequenceMatcher__chain_b") = some (some (.ref 195)) := by kernel_rfl!
theorem fn_chain (P : Params) : isFn (KF P) (.ref 195) = true := by kernel_rfl!
-- what the matcher knows of its second text, in objects
structure Sta (w : World) (nw : List (Addr × Obj)) (D J : Addr) (b : List Nat) : Prop where
  d : ∃ od f k, (D, od) ∈ nw ∧ SMp w od f k ∧ Tab nw f b ∧ (D == sysModules) = false
  j : ∃ led, (J, sO #[] 0 (.fresh 0 0 led)) ∈ nw
theorem Sta.mono {w : World} {nw nw' : List (Addr × Obj)} {D J : Addr} {b : List Nat} (x : Sta w nw D J b) (h : ∀ p ∈ nw, p ∈ nw') : Sta w nw' D J b :=
  ⟨let ⟨od, f, k, a, b, c, e⟩ := x.d; ⟨od, f, k, h _ a, b, c.mono h, e⟩, let ⟨l, a⟩ := x.j; ⟨l, h _ a⟩⟩
theorem setOf_fresh {w : World} {h : Heap} {J : Addr} {led : Bool} (e : h.get? J = some (sO #[] 0 (.fresh 0 0 led))) : h.SetOf (strKind pw w) J (fun _ => false) 0 :=
  ⟨_, #[], 0, _, e, ⟨rfl, rfl, rfl⟩, rfl, fun e he => by simp at he, fun k => by simp, by decide, by rfl, rfl⟩
theorem Sta.b2j {w : World} {nw : List (Addr × Obj)} {D J : Addr} {b : List Nat} {h : Heap} (x : Sta w nw D J b) (k : ∀ p ∈ nw, h.get? p.1 = some p.2) : B2J w h D b := by
  obtain ⟨od, f, n, a1, a2, a3, a4⟩ := x.d
  refine ⟨f, a2.map (k _ a1), a4, fun c => ?_⟩
  rcases a3.ent c with ⟨l, vs, kl, e1, e2, e3⟩ | e
  · exact .inl ⟨l, vs, e1, lo_isList (k _ e2), e3⟩
  · exact .inr e
section
variable {w : World} {A : Around} {gs : Array GenState} {dr : Drawn} {os : OsState} {g h : Heap} {t : Nat} {d u : Nat} {L : Addr} {m : Str → Option Value} {news : List (Addr × Obj)} {pos : Pos} {env : Env}
theorem e_dictS {Q : Value → Shared → Prop} (H : Hp g L h m news) (y : ∀ a h', a = h.objs.size → Hp g L h' m ((a, ({ cls := .type "dict", data := .dict #[] } : Obj)) :: news) → Q (.ref a) ⟨h', gs, dr, t, os⟩) : WP w A (eval (.Dict [] [] pos) env) Q ⟨h, gs, dr, t, os⟩ :=
  wpAny_Dict_empty (y _ _ rfl (H.push _))
theorem o_set {Q : Value → Shared → Prop} (H : Hp g L h m news) (y : ∀ a h' led, Hp g L h' m ((a, sO #[] 0 (.fresh 0 0 led)) :: news) → Q (.ref a) ⟨h', gs, dr, t, os⟩) : WP w A (call (.type "set") []) Q ⟨h, gs, dr, t, os⟩ :=
  call_set_0 fun led => y _ _ led (H.push _)
theorem nw_of {h0 h' g' : Heap} {dm : Addr} {o : Obj} {nw : List (Addr × Obj)} (H : Hp g' L h' m ((dm, o) :: nw)) (e3 : ∀ b, b ≠ dm → g'.get? b = h0.get? b) : ExtB dm h0 h' ∧ h'.get? dm = some o ∧ Nw h0 h' nw := by
  refine ⟨fun x o hx e => H.F.keep _ _ ((e3 x hx).trans e), H.at 0 rfl, ⟨fun p hp => (H.N p (.tail _ hp)).1, fun p hp => ?_, (List.nodup_cons.mp H.nd).2⟩⟩
  have hne2 : p.1 ≠ dm := fun z => (List.nodup_cons.mp H.nd).1 (List.mem_map.mpr ⟨p, hp, z⟩)
  rw [← e3 _ hne2]
  exact (H.N p (.tail _ hp)).2.2
set_option maxHeartbeats 4000000 in
theorem chain_ok {b : Str} {tb : Tok} {mt dm : Addr} {es : List DictEntry} {nd c : Nat} {vs : List (Option Value)} {Q : Value → Shared → Prop}
    (B : Bs w g) (kg : Ext g h) (hs : g.objs.size ≤ h.objs.size) (hA : AOk A d u) (hd : d + 1 < recursionLimit) (hm : g.get? mt = some (instObj 249 dm)) (hdn : g.get? dm = none) (hdm : h.get? dm = some (dictOf es nd)) (at_ : Att es vs c) (hc : c ≤ 800)
    (eI : vs[0]? = some (some .none)) (eb : vs[2]? = some (some (.str b tb))) (eA : vs[3]? = some (some (.bool false))) (hb : b.length ≤ 1000)
    (y : ∀ (h' : Heap) (t' : Nat) (D J PP : Addr) (es' : List DictEntry) (nd' : Nat) (nw : List (Addr × Obj)), ExtB dm h h' → h'.get? dm = some (dictOf es' nd') → Nw h h' nw → Att es' (((vs.set 7 (some (.ref D))).set 8 (some (.ref J))).set 9 (some (.ref PP))) (c + 3) →
      Sta w nw D J b.cps.toList → Q .none ⟨h', gs, dr, t', os⟩) :
    WP w A (call (.ref 195) [.ref mt]) Q ⟨h, gs, dr, t, os⟩ := by
  obtain ⟨g', B', k1, k2, e1, e2, e3⟩ := lift B kg hs hdn hdm
  refine enter (vs := [.ref mt]) (ns := ns_chain) (news := [(dm, dictOf es nd)]) g' B' k2 (Nat.le_of_eq e1) (by intro p hp; simp at hp; subst hp; exact ⟨hdm, e2⟩) (by simp) hA (by (first|lia|omega)) ok_chain (lk_195 _) (cd_195 _) (.of_eq (by kernel_rfl!)) (by kernel_rfl!) (by kernel_rfl!) (by kernel_rfl!) ?_
  intro h1 t1 H kk
  change WP w _ (execs (bodyOf (me 8 5)) (env_chain h.objs.size)) _ _
  have hA1 := hA.deeper (envOf (Str.ofString "SequenceMatcher.__chain_b") (scoOf (me 8 5)) h.objs.size 195 (.ref 194))
  generalize A.deeper _ = A1 at hA1 ⊢
  change Hp g' h.objs.size h1 (LV ns_chain [some (.ref mt), none, none, none, none, none, none, none, none, none, none, none]) [(dm, dictOf es nd)] at H
  have hm' := k1 _ _ hm
  have hl := at_.len
  have hl10 : vs.length = 10 := hl.symm
  refine r_cons ?_
  refine r_assign ?_
  refine e_attr ?_
  (with_reducible refine ld_chain_0 ‹_› ?_)
  refine m_getA 0 2 B' H (H.F.keep _ _ hm') rfl at_ rfl eb (fi_b _) rfl fun t2 => ?_
  refine g_go ?_
  (with_reducible refine st_chain_1 ‹_› ?_); intro h3 t3 H3
  refine r_cons ?_
  refine r_two ?_
  refine e_dictS H3 fun D h4 hDe H4 => ?_
  have hDs : (D == sysModules) = false := by rw [hDe]; exact H3.notMod B'
  refine a_attr ?_
  (with_reducible refine ld_chain_0 ‹_› ?_)
  refine m_set 1 7 B' H4 (H4.F.keep _ _ hm') rfl at_ rfl (by (first|lia|omega)) fun h5 t5 es5 nd5 at5 H5 => ?_
  dsimp only [List.set] at H5
  refine a_name ?_
  (with_reducible refine st_chain_2 ‹_› ?_); intro h6 t6 H6
  refine r_cons ?_
  refine r_for ?_
  refine e_call ?_
  (with_reducible refine gl_chain_enumerate ‹_› ‹_› ?_)
  refine call_rule ?_
  refine sp_cons ?_
  (with_reducible refine ld_chain_1 ‹_› ?_)
  refine sp_nil ?_
  refine keep_t ?_
  refine en_new H6 fun e it oi h7 hi H7 => ?_
  refine wpAny_pyIter_enum (s := ⟨h7, gs, dr, t6, os⟩) (H7.at 0 rfl) ?_
  refine chain_loop B' hA1 hb hDs ⟨h7, _, 0, 0, _, _, oi, _, [], none, none, none, rfl, rfl, Nat.zero_le _, H7, hi, smp_new, Nat.le_refl _, Tab.nil⟩ ?_
  intro h8 t8 k f od lst v3 v4 v5 H8 hS T8
  refine r_cons ?_
  refine r_two ?_
  refine e_call ?_
  (with_reducible refine gl_chain_set ‹_› ‹_› ?_)
  refine call_rule0 ?_
  refine keep_t ?_
  refine o_set H8 fun J h9 led H9 => ?_
  refine a_attr ?_
  (with_reducible refine ld_chain_0 ‹_› ?_)
  refine m_set 2 8 B' H9 (H9.F.keep _ _ hm') rfl at5 rfl (by (first|lia|omega)) fun h10 t10 es10 nd10 at10 H10 => ?_
  dsimp only [List.set] at H10
  refine a_name ?_
  (with_reducible refine st_chain_6 ‹_› ?_); intro h11 t11 H11
  refine r_cons ?_
  refine r_assign ?_
  refine e_attr ?_
  (with_reducible refine ld_chain_0 ‹_› ?_)
  refine m_getA 2 0 B' H11 (H11.F.keep _ _ hm') rfl at10 rfl (by rw [List.getElem?_set_ne (by decide), List.getElem?_set_ne (by decide)]; exact eI) (fi_isjunk _) rfl fun t12 => ?_
  refine g_go ?_
  (with_reducible refine st_chain_7 ‹_› ?_); intro h13 t13 H13
  refine r_cons ?_
  refine r_if ?_
  refine t_other ?_
  (with_reducible refine ld_chain_7 ‹_› ?_)
  refine t_none ?_
  rw [if_neg (by decide)]
  refine r_nil ?_
  refine r_cons ?_
  refine r_two ?_
  refine e_call ?_
  (with_reducible refine gl_chain_set ‹_› ‹_› ?_)
  refine call_rule0 ?_
  refine keep_t ?_
  refine o_set H13 fun PP h14 led2 H14 => ?_
  refine a_attr ?_
  (with_reducible refine ld_chain_0 ‹_› ?_)
  refine m_set 3 9 B' H14 (H14.F.keep _ _ hm') rfl at10 rfl (by (first|lia|omega)) fun h15 t15 es15 nd15 at15 H15 => ?_
  dsimp only [List.set] at H15
  refine a_name ?_
  (with_reducible refine st_chain_8 ‹_› ?_); intro h16 t16 H16
  refine r_cons ?_
  refine r_assign ?_
  refine e_call ?_
  (with_reducible refine gl_chain_len ‹_› ‹_› ?_)
  refine call_rule ?_
  refine sp_cons ?_
  (with_reducible refine ld_chain_1 ‹_› ?_)
  refine sp_nil ?_
  refine keep_b ?_
  refine o_len_str (by (first|lia|omega)) fun tn t17 => ?_
  (with_reducible refine st_chain_9 ‹_› ?_); intro h18 t18 H18
  refine r_cons ?_
  refine r_if ?_
  refine t_and (a_cons ?_)
  refine t_other ?_
  refine e_attr ?_
  (with_reducible refine ld_chain_0 ‹_› ?_)
  refine m_getA 3 3 B' H18 (H18.F.keep _ _ hm') rfl at15 rfl (by rw [List.getElem?_set_ne (by decide), List.getElem?_set_ne (by decide), List.getElem?_set_ne (by decide)]; exact eA) (fi_autojunk _) rfl fun t19 => ?_
  refine g_go ?_
  refine t_bool ?_
  refine k_false ?_
  rw [if_neg (by decide)]
  refine r_nil ?_
  refine r_nilQ ?_
  have H19 := H18.perm (List.perm_middle (a := (dm, dictOf es15 nd15)) (l₁ := [(PP, _), (J, _), (D, od)]) (l₂ := lst))
  obtain ⟨q1, q2, q3⟩ := nw_of H19 e3
  exact y h18 _ D J PP es15 nd15 _ q1 q2 q3 at15 ⟨⟨od, f, k, by simp, hS, T8.mono fun p hp => by simp [hp], hDs⟩, ⟨led, by simp⟩⟩
end
-- the count of tokens never falls
theorem runs_toks {M : Model} {Γ : Ctx} {p : Pos} {t : Sem PySem.Fin} {fs : List Frame} {s s' : Shared} {e : End} (h : PySem.Runs M Γ p t fs s e s') : s.toks ≤ s'.toks := by
  induction h <;> first
    | exact Nat.le_refl _
    | assumption
    | (first|lia|omega)
    | exact Nat.le_trans (by assumption) (by assumption)
    | (dsimp only [Shared.setGen] at *; (first|lia|omega))
    | (dsimp at *; (first|lia|omega))
theorem wakes_toks {M : Model} {Γ : Ctx} {p : Pos} {g : Nat} {r : Resume} {s s' : Shared} {res : GenResult} (h : Wakes M Γ p g r s res s') : s.toks ≤ s'.toks := by
  unfold Wakes at h
  split at h
  · exact h.elim
  · split at h
    · obtain ⟨e₁, s₁, h1, -, -, rfl⟩ := h
      have := runs_toks h1
      exact this
    · obtain ⟨-, rfl⟩ := h; exact Nat.le_refl _
    · obtain ⟨-, rfl⟩ := h; exact Nat.le_refl _
  · obtain ⟨e₁, s₁, h1, -, -, rfl⟩ := h
    have := runs_toks h1
    exact this
  · obtain ⟨-, rfl⟩ := h; exact Nat.le_refl _
  · obtain ⟨-, rfl⟩ := h; exact Nat.le_refl _
theorem wp_toks {α : Type} {M : Model} {Γ : Ctx} : ∀ (m : Sem α) {Q : α → Pos → Shared → Prop} {E : Value → Pos → Shared → Prop} {p : Pos} {s : Shared}, Sem.wp M Γ m Q E p s → Sem.wp M Γ m (fun a p' s' => Q a p' s' ∧ s.toks ≤ s'.toks) (fun e p' s' => E e p' s' ∧ s.toks ≤ s'.toks) p s := by
  intro m
  have up : ∀ {β : Type} (m' : Sem β) {Q : β → Pos → Shared → Prop} {E : Value → Pos → Shared → Prop} {p : Pos} {s s1 : Shared}, s.toks ≤ s1.toks → Sem.wp M Γ m' (fun a p' s' => Q a p' s' ∧ s1.toks ≤ s'.toks) (fun e p' s' => E e p' s' ∧ s1.toks ≤ s'.toks) p s1 → Sem.wp M Γ m' (fun a p' s' => Q a p' s' ∧ s.toks ≤ s'.toks) (fun e p' s' => E e p' s' ∧ s.toks ≤ s'.toks) p s1 :=
    fun {β} m' {Q E p s s1} le h => Sem.wp_mono _ _ _ (fun _ _ _ z => ⟨z.1, Nat.le_trans le z.2⟩) (fun _ _ _ z => ⟨z.1, Nat.le_trans le z.2⟩) _ _ h
  induction m with
  | pure a => intro Q E p s h; rw [Sem.wp] at h ⊢; exact ⟨h, Nat.le_refl _⟩
  | raise e => intro Q E p s h; rw [Sem.wp] at h ⊢; exact ⟨h, Nat.le_refl _⟩
  | unsupported w => intro Q E p s h; rw [Sem.wp] at h; exact h.elim
  | finish w => intro Q E p s h; rw [Sem.wp] at h; exact h.elim
  | rule tag k ih => intro Q E p s h; rw [Sem.wp] at h ⊢; exact ih () h
  | «at» p' k ih => intro Q E p s h; rw [Sem.wp] at h ⊢; exact ih () h
  | load a part k ih => intro Q E p s h; rw [Sem.wp] at h ⊢; obtain ⟨o, e, h⟩ := h; exact ⟨o, e, ih o h⟩
  | update a part f k ih => intro Q E p s h; rw [Sem.wp] at h ⊢; exact ⟨h.1, ih () h.2⟩
  | alloc o k ih => intro Q E p s h; rw [Sem.wp] at h ⊢; exact ih _ h
  | loadIfAlive a k ih => intro Q E p s h; rw [Sem.wp] at h ⊢; exact ih _ h
  | point l k ih => intro Q E p s h; rw [Sem.wp] at h ⊢; exact ih () h
  | register a k ih => intro Q E p s h; rw [Sem.wp] at h; exact h.elim
  | fresh k ih => intro Q E p s h; rw [Sem.wp] at h ⊢; exact up _ (Nat.le_succ _) (ih _ h)
  | ask k ih => intro Q E p s h; rw [Sem.wp] at h ⊢; exact ih _ h
  | choose src n k ih => intro Q E p s h; rw [Sem.wp] at h ⊢; exact ⟨h.1, ih _ h.2⟩
  | os req l k ih => intro Q E p s h; rw [Sem.wp] at h ⊢; exact ih _ h
  | call c hd g l k ih =>
    intro Q E p s h
    rw [Sem.wp] at h ⊢
    obtain ⟨r, s1, h1, h2⟩ := h
    exact ⟨r, s1, h1, up _ (runs_toks h1) (ih r h2)⟩
  | handled own k ih => intro Q E p s h; rw [Sem.wp] at h ⊢; exact ih _ h
  | newGen c k ih => intro Q E p s h; rw [Sem.wp] at h ⊢; exact ih _ h
  | genState g k ih => intro Q E p s h; rw [Sem.wp] at h ⊢; obtain ⟨st, e, h⟩ := h; exact ⟨st, e, ih _ h⟩
  | resume g r l k ih =>
    intro Q E p s h
    rw [Sem.wp] at h ⊢
    obtain ⟨res, s1, h1, h2⟩ := h
    exact ⟨res, s1, h1, up _ (wakes_toks h1) (ih res h2)⟩
  | yield v g l k => intro Q E p s h; rw [Sem.wp] at h; exact h.elim
  | stack k ih => intro Q E p s h; rw [Sem.wp] at h ⊢; exact ih _ h
  | fork c k ih => intro Q E p s h; rw [Sem.wp] at h; exact h.elim
  | thread k ih => intro Q E p s h; rw [Sem.wp] at h ⊢; exact ih _ h
  | await a t td l k ih => intro Q E p s h; rw [Sem.wp] at h; exact h.elim
theorem mono_t {α : Type} {w : World} {A : Around} {m : Sem α} {Q : α → Shared → Prop} {s : Shared} (h : WP w A m Q s) : WP w A m (fun a s' => Q a s' ∧ s.toks ≤ s'.toks) s := fun Γ p hΓ =>
  Sem.wp_mono _ _ _ (fun _ _ _ z => z) (fun _ _ _ z => z.1) _ _ (wp_toks m (h Γ p hΓ))
theorem with_t {α : Type} {w : World} {A : Around} {m : Sem α} {Q : α → Shared → Prop} {s : Shared} (h : WP w A m (fun a s' => s.toks ≤ s'.toks → Q a s') s) : WP w A m Q s :=
  wpAny_mono (mono_t h) (fun a s' z => z.1 z.2) fun _ _ e => e
theorem r_consT {w : World} {A : Around} {env : Env} {st : Stmt} {rest : List Stmt} {Q : Flow → Shared → Prop} {s : Shared} (x : WP w A (exec st env) (Seq (fun s' => s.toks ≤ s'.toks → WP w A (execs rest env) Q s') Q) s) : WP w A (execs (st :: rest) env) Q s := by
  refine r_cons (wpAny_mono (mono_t x) (fun f s' z => ?_) fun _ _ e => e)
  cases f with
  | next => exact z.1 z.2
  | _ => exact z.1
section
open PySem.Builtin.Str PySem.W.KPc
variable {M : Model} {A : Around} {E : Value → Shared → Prop} {s : Shared} {l : List Nat} {p : List Value} {r : List Nat}
  {f : Nat → List Value × Writer × List Nat → Sem (ForInStep (List Value × Writer × List Nat))} {Q : List Value × Writer × List Nat → Shared → Prop}
  {w : Writer} {T x y : PySem.Str} {N K : Nat} {o : Option Value}
noncomputable abbrev Two (w : Writer) : Prop := w.whole = none ∧ w.pieces.isEmpty = false
theorem two_keep (h : Two w) : Two (w.add x o) := by
  unfold Writer.add
  split
  · exact h
  · exact ⟨by show (if w.pieces.isEmpty then o else none) = none; rw [h.2]; rfl, rfl⟩
theorem two_lit (hx : (x.length == 0) = false) (ho : o = none) : Two (w.add x o) := by
  unfold Writer.add
  rw [if_neg (by rw [hx]; decide)]
  exact ⟨by show (if w.pieces.isEmpty then o else none) = none; rw [ho]; split <;> rfl, rfl⟩
theorem after_lit2 (g : Good w T N) (hx : x = y) (ho : o = none) (hy : (y.length == 0) = false) (h : ∀ w', Good w' (T ++ y) (N + y.length) → Two w' → wpAny M A (forIn l (p, w', r) f) Q E s) : wpAny M A (forIn l (p, w.add x o, r) f) Q E s := by
  subst hx
  exact h _ (good_add g (obj_none ho)) (two_lit hy ho)
theorem after_add2 (g : Good w T N) (g2 : Two w) (hx : x = y) (ho : Obj o x) (h : ∀ w', Good w' (T ++ y) (N + y.length) → Two w' → wpAny M A (forIn l (p, w', r) f) Q E s) : wpAny M A (forIn l (p, w.add x o, r) f) Q E s := by
  subst hx
  exact h _ (good_add g ho) (two_keep g2)
theorem after_str2 (g : Good w T N) (g2 : Two w) (hy : y.length ≤ K) (ho : Obj o y) (h : ∀ w', Good w' (T ++ y) (N + K) → Two w' → wpAny M A (forIn l (p, w', r) f) Q E s) : wpAny M A (forIn l (p, w.add ⟨y.cps.toList.toArray⟩ o, r) f) Q E s := by
  have eb : (⟨y.cps.toList.toArray⟩ : PySem.Str) = y := congrArg PySem.Str.mk (Array.toArray_toList ..)
  rw [eb]
  exact h _ (good_mono (good_add g ho) (Nat.add_le_add_left hy _)) (two_keep g2)
theorem after_int2 {c : Percent} {n : Int} {d : List Nat} (g : Good w T N) (g2 : Two w) (h1 : c.alt = false) (h2 : c.type = 100 ∨ c.type = 105 ∨ c.type = 117) (h3 : c.prec = none) (hn : 0 ≤ n) (hm : n < 10 ^ 10)
    (hd : d = (PySem.Str.ofString (toString ((n.natAbs : Nat) : Int))).cps.toList) (ho : o = none) (h : ∀ w', Good w' (T ++ PySem.Str.ofString (toString n)) (N + 10) → Two w' → wpAny M A (forIn l (p, w', r) f) Q E s) :
    wpAny M A (forIn l (p, w.add ⟨(percentInt c (decide (n < 0)) d).toArray⟩ o, r) f) Q E s := by
  have en : ((n.natAbs : Nat) : Int) = n := Int.natAbs_of_nonneg hn
  rw [int_text c h1 h2 h3 hn, hd, en]
  exact after_str2 g g2 (toString_length_le hn (by decide) hm) (obj_none ho) h
theorem finish2 {T' : PySem.Str} {id : String} {Q : PySem.Fin → Shared → Prop} (g : Good w T N) (g2 : Two w) (hN : N ≤ 16777216) (hT : T = T')
    (h : Q (.done (.ret (.str T' s.toks))) { s with toks := s.toks + 1 }) : wpAny M A (w.finish id) Q E s := by
  subst hT
  have hL : T.length ≤ sizeLine := by
    rw [sizeLine_eq]
    exact Nat.le_trans g.len hN
  unfold Writer.finish
  rw [g2.1]
  refine wpAny_ite (ite_no (short_good g hN) ?_)
  rw [g.text]
  exact wpAny_bind (wpAny_mkStr (wpAny_pure h) hL)
end
set_option maxHeartbeats 8000000 in
theorem meets_short2 {a : Addr} {X Y : Str} {n : Int} {t u1 u2 u3 : Tok} (hX : X.length ≤ 100000) (hY : Y.length ≤ 100000) (hn : 0 ≤ n) (hn' : n < 1000000) 
    (prog : Program) (w : World) (A : Around) (s : Shared) (Q : PySem.Fin → Shared → Prop) (E : Value → Shared → Prop) (kptH : IsTup s.heap a #[.str X u1, .int n u2, .str Y u3])
    (hQ : ∀ t' k, s.toks < t' → Q (.done (.ret (.str ⟨X.cps ++ (Str.ofString "[").cps ++ (Str.ofString (toString n)).cps ++ (Str.ofString " chars]").cps ++ Y.cps⟩ t'))) { s with toks := k }) :
    wpAny (model prog w) A (Builtin.«str.__mod__» ⟨[.str ⟨#[37, 115, 91, 37, 100, 32, 99, 104, 97, 114, 115, 93, 37, 115]⟩ t, .ref a], []⟩) Q E s := by
  obtain ⟨kptO, kptG, kptC, kptN, kptD⟩ := kptH
  rw [KPt.entry_is_r]
  unfold Builtin.Str.percentFormat
  refine wpAny_bind (wpAny_isInstance (T := "tuple") ⟨kptO, kptG, kptC⟩ KPt.sub_tt ?_)
  refine wpAny_bind (KPt.asStr_ref kptG kptD ?_)
  refine wpAny_bind (KPt.fills_ref ⟨kptO, kptG, kptC⟩ ?_)
  intro _
  kpc_if
  refine wpAny_bind (wpAny_seqItems kptG kptD ?_)
  refine wpAny_bind (wpAny_pure ?_)
  refine wpAny_bind ?_
  rw [KPc.range_list]
  refine KPc.start ?_
  intro w1 g1
  -- turn 1: %s
  refine KPc.turn ?_
  kpc_check
  (repeat kpc_if)
  refine wpAny_bind ?_
  refine wpAny_holding ?_
  (repeat kpc_if)
  kpt_conv
  refine wpAny_pure ?_
  refine wpAny_pure ?_
  refine KPc.after_str0 (by kpc_g) (by kpt_len) (by kpc_obj) ?_
  intro w2 g2
  -- turn 2: [
  refine KPc.turn ?_
  kpc_check
  (repeat kpc_if)
  refine wpAny_pure ?_
  refine after_lit2 (y := Str.ofString "[") g2 (by kpc_text) (by kpc_none) (by decide +kernel) ?_
  intro w3 g3 q3
  -- turn 3: %d
  refine KPc.turn ?_
  kpc_check
  (repeat kpc_if)
  refine wpAny_bind ?_
  refine wpAny_holding ?_
  (repeat kpc_if)
  kpt_conv
  refine wpAny_pure ?_
  refine wpAny_pure ?_
  refine after_int2 g3 q3 rfl (by kpc_kind) rfl (by kpt_fact) (by kpt_fact) rfl (by kpc_none) ?_
  intro w4 g4 q4
  -- turn 4: literal
  refine KPc.turn ?_
  kpc_check
  (repeat kpc_if)
  refine wpAny_pure ?_
  refine after_add2 (y := Str.ofString " chars]") g4 q4 (by kpc_text) (by kpc_obj) ?_
  intro w5 g5 q5
  -- turn 5: %s
  refine KPc.turn ?_
  kpc_check
  (repeat kpc_if)
  refine wpAny_bind ?_
  refine wpAny_holding ?_
  (repeat kpc_if)
  kpt_conv
  refine wpAny_pure ?_
  refine wpAny_pure ?_
  refine after_str2 g5 q5 (by kpt_len) (by kpc_obj) ?_
  intro w6 g6 q6
  -- the end
  refine KPc.turn ?_
  kpc_check
  (repeat kpc_if)
  refine wpAny_pure ?_
  kpc_if
  refine finish2 g6 q6 (by decide +kernel) (by first | kpc_text | exact rfl) ?_
  exact hQ _ _ (Nat.lt_succ_of_le (Nat.le_succ _))
section
variable {w : World} {A : Around} {gs : Array GenState} {dr : Drawn} {os : OsState} {h : Heap} {t : Nat} {d u : Nat}
theorem enterT {f : Addr} {name qual : Str} {params : Arguments} {body : List Stmt} {scope : Scope} {dV kV doc pm cdv ct oc : Value} {an od : Option Addr} {osl : Array (Option Value)} {args : List Value} {vs : List Value} {ns : List String} {Q : Value → Shared → Prop} {d u : Nat} {news : List (Addr × Obj)}
    (g : Heap) (B : Bs w g) (hg : Ext g h) (hs : g.objs.size ≤ h.objs.size) (hid : ∀ p ∈ news, h.get? p.1 = some p.2 ∧ g.get? p.1 = none) (hnd : (news.map (·.1)).Nodup) (hA : AOk A d u) (hd : d < recursionLimit) (ok : NamesOk ns scope)
    (ho : (KF w.params).lookup f = some ⟨oc, od, .func (fnOf name qual params body scope dV kV doc pm an cdv ct), osl⟩) (hcd : codeIn (KF w.params) cdv qual = true)
    (hbind : BindsTo ⟨h, gs, dr, t, os⟩ (fnOf name qual params body scope dV kV doc pm an cdv ct) ⟨args, []⟩ ((ns.map Str.ofString).zip vs))
    (hcell : (scope.names.all fun x => x.2 != .cell) = true) (hco : scope.isCoroutine = false) (hgen : scope.isGenerator = false)
    (y : ∀ h' t', Hp g h.objs.size h' (LV ns (vs.map some ++ List.replicate (ns.length - vs.length) none)) news → Ext h h' → t ≤ t' →
      WP w (A.deeper (envOf qual scope h.objs.size f cdv)) (execs body (envOf qual scope h.objs.size f cdv)) (Ret Q) ⟨h', gs, dr, t', os⟩) :
    WP w A (call (.ref f) args) Q ⟨h, gs, dr, t, os⟩ := by
  refine wpAny_call ?_
  have X : (KF w.params).In h := fun a o e => hg _ _ (B.K a o e)
  refine codeAny_call_def (fd := fnOf name qual params body scope dV kV doc pm an cdv ct) (body := body) (binds := (ns.map Str.ofString).zip vs) (Nat.lt_of_le_of_lt hA.hd hd) (X _ _ ho) rfl (B.lim.keeps hg) (codeRec_of X hcd) rfl hbind ?_ ?_ (fun h₁ hns hk₁ => ?_) hco hgen ok.kind
  · intro x hx e
    have := List.all_eq_true.mp hcell x hx
    rw [e] at this; cases this
  · rintro ⟨x, v⟩ hx
    have := (List.of_mem_zip hx).1
    obtain ⟨n, hn, rfl⟩ := List.mem_map.mp this
    exact (ok.at hn).1
  · have e : (fun x => ((ns.map Str.ofString).zip vs).reverse.lookup x) = _ := LV_binds (vs := vs) ok.nodup
    have hns' : h₁.Ns h.objs.size (LV ns (vs.map some ++ List.replicate (ns.length - vs.length) none)) := by rw [← e]; exact hns
    refine wpAny_mono (y h₁ _ ⟨⟨hns', fun b o e => hk₁ b o (hg b o e), hs⟩, fun p hp => ⟨hk₁ _ _ (hid p hp).1, Nat.ne_of_lt (Heap.lt_size (hid p hp).1), (hid p hp).2⟩, hnd⟩ hk₁ ?_) (fun fl s' x => x) (fun _ _ x => x.elim)
    first | exact Nat.le_refl _ | exact Nat.le_succ _ | (dsimp only; (first|lia|omega))
theorem mod_tuple2 {h₀ : Heap} {L b : Addr} {news : List (Addr × Obj)} {X Y : Str} {m : Int} {k : Nat} {tf u1 u2 u3 : Tok} {F : Str} {Q : Value → Shared → Prop} {s : Shared} (N : News h₀ L s.heap news) (hb : (b, ({ cls := .type "tuple", data := .seq #[.str X u1, .int m u2, .str Y u3] k } : Obj)) ∈ news) (hF : F = ⟨#[37, 115, 91, 37, 100, 32, 99, 104, 97, 114, 115, 93, 37, 115]⟩)
    (hX : X.length ≤ 100000) (hY : Y.length ≤ 100000) (hn : 0 ≤ m) (hn' : m < 1000000)
    (y : ∀ t' k, s.toks < t' → Q (.str ⟨X.cps ++ (Str.ofString "[").cps ++ (Str.ofString (toString m)).cps ++ (Str.ofString " chars]").cps ++ Y.cps⟩ t') { s with toks := k }) : WP w A (binaryOp .Mod (.str F tf) (.ref b)) Q s := by
  subst hF
  have ht : IsTup s.heap b #[.str X u1, .int m u2, .str Y u3] := N.isTup hb
  have hT : s.TypeIs (.ref b) "tuple" := by
    obtain ⟨o, ho, hc, _⟩ := ht
    exact ⟨o, ho, hc⟩
  have hm : Meets (Builtin.«str.__mod__» ⟨[.str ⟨#[37, 115, 91, 37, 100, 32, 99, 104, 97, 114, 115, 93, 37, 115]⟩ tf, .ref b], []⟩) (fun _ R s => IsTup s.heap b #[.str X u1, .int m u2, .str Y u3] ∧ ∀ t' k, s.toks < t' → R (.ok (.ret (.str ⟨X.cps ++ (Str.ofString "[").cps ++ (Str.ofString (toString m)).cps ++ (Str.ofString " chars]").cps ++ Y.cps⟩ t'))) { s with toks := k }) :=
    Meets.of_wp fun prog w A _ s hS => meets_short2 hX hY hn hn' prog w A.in1 s _ _ hS.1 fun t' k ht' => ⟨_, rfl, hS.2 t' k ht'⟩
  exact KPt.bin_left (T := "str") (U := "tuple") (op := .Mod) (by decide) (typeIs_str s _ tf) hT F.fills_str_mod KPt.fills_tuple F.slot_str_mod
    (call_meets F.slot_str_mod (typeIs_str s _ tf) F.entry_str_mod (F.args_str_mod_2 _ _) hm ⟨ht, fun t' k ht' => ⟨(fun e => nomatch e), y t' k ht'⟩⟩)
set_option maxHeartbeats 1000000 in
theorem shorten_ok2 {x : Str} {tk tp tq : Tok} {p q : Int} {Q : Value → Shared → Prop} (B : Bs w h) (hA : AOk A d u) (hd : d < recursionLimit) (hx : x.length ≤ 1000) (hp : 0 ≤ p) (hq : 0 ≤ q)
    (y1 : 12 < (x.length : Int) - p - q → ∀ h' t' tv, t < tv → Ext h h' → Q (.str (shortS x ((x.length : Int) - p - q) p ((x.length : Int) - q)) tv) ⟨h', gs, dr, t', os⟩)
    (y2 : ¬ 12 < (x.length : Int) - p - q → ∀ h' t', Ext h h' → Q (.str x tk) ⟨h', gs, dr, t', os⟩) :
    WP w A (call (.ref 28) [.str x tk, .int p tp, .int q tq]) Q ⟨h, gs, dr, t, os⟩ := by
  refine enterT (vs := [.str x tk, .int p tp, .int q tq]) (ns := ns_shorten) (news := []) h B (Ext.refl h) (Nat.le_refl _) (by simp) (by simp) hA hd ok_shorten (lk_28 _) (cd_28 _) (.of_eq (by kernel_rfl!)) (by kernel_rfl!) (by kernel_rfl!) (by kernel_rfl!) ?_
  intro h1 t1 H k1 ht1
  change WP w _ (execs (bodyOf (st 3)) (env_shorten h.objs.size)) _ _
  generalize A.deeper _ = A1
  change Hp h h.objs.size h1 (LV ns_shorten [some (.str x tk), some (.int p tp), some (.int q tq), none]) [] at H
  refine r_consT ?_
  repeat (first | (with_reducible first|refine ld_shorten_0 ‹_› ?_|refine ld_shorten_1 ‹_› ?_|refine ld_shorten_2 ‹_› ?_|refine gl_shorten_len ‹_› ‹_› ?_) | (first|(with_reducible first|refine e_bin ?_|refine e_call ?_|refine sp_cons ?_|refine sp_nil ?_)|(with_reducible refine o_sub ?_; intro _ _)|(with_reducible first|refine r_assign ?_|refine keep_b ?_|refine call_rule ?_)) | (with_reducible refine o_len_str (by (first|lia|omega)) ?_; intro _ _))
  (with_reducible refine st_shorten_3 ‹_› ?_)
  intro h2 t2 H2 ht2
  clear H
  refine r_cons ?_
  refine r_if (with_t ?_)
  repeat (first | (with_reducible first|refine ld_shorten_3 ‹_› ?_|refine gl_shorten__PLACEHOLDER_LEN ‹_› ‹_› ?_) | (with_reducible first|refine t_cmp ?_|refine t_bool ?_|refine c_gt ?_))
  intro ht3
  by_cases hc : 12 < (x.length : Int) - p - q
  · rw [if_pos (decide_eq_true hc)]
    refine r_cons ?_
    refine r_assign ?_
    refine e_bin (with_t ?_)
    refine e_str fun tv4 t4 => ?_
    intro ht4
    refine with_t ?_
    repeat (first | (with_reducible first|refine ld_shorten_0 ‹_› ?_|refine ld_shorten_1 ‹_› ?_|refine ld_shorten_2 ‹_› ?_|refine ld_shorten_3 ‹_› ?_|refine gl_shorten_len ‹_› ‹_› ?_) | (first|(with_reducible first|refine e_bin ?_|refine e_call ?_|refine sp_cons ?_|refine sp_nil ?_|refine p_none ?_|refine p_some ?_)|(with_reducible refine o_sub ?_; intro _ _)|(with_reducible first|refine keep_b ?_|refine call_rule ?_|refine e_slice_str ?_)|(with_reducible refine o_slice_to (by (first|lia|omega)) ‹_› ?_; intro _ _ _ _)|(with_reducible refine o_slice_from (by (first|lia|omega)) ‹_› ?_; intro _ _ _ _)|with_reducible refine e_tuple ‹_› ?_|(with_reducible refine n_tuple ‹_› ?_; intro _ _ _ _ _ _)) | (with_reducible refine o_len_str (by (first|lia|omega)) ?_; intro _ _))
    rename_i a3 h3 H3 _ _ _
    intro ht5
    refine mod_tuple2 H3.N (.head _) (by kpt_eq) (Nat.le_trans (Txt.slice_le x _ _) (by (first|lia|omega))) (Nat.le_trans (Txt.slice_le x _ _) (by (first|lia|omega))) (by (first|lia|omega)) (by (first|lia|omega)) fun tv t3 htv => ?_
    (with_reducible refine st_shorten_0 ‹_› ?_)
    intro h4 t4 H4
    repeat (first | (with_reducible refine ld_shorten_0 ‹_› ?_) | (with_reducible first|refine r_ret ?_|refine r_cons ?_|refine r_nil ?_))
    dsimp only at ht1 ht2 ht3 ht4 ht5 htv
    exact y1 hc _ _ _ (by (first|lia|omega)) H4.F.keep
  · rw [if_neg (by simpa using hc)]
    repeat (first | (with_reducible refine ld_shorten_0 ‹_› ?_) | (with_reducible first|refine r_ret ?_|refine r_cons ?_|refine r_nil ?_))
    exact y2 hc _ _ H2.F.keep
end
noncomputable def IsF (w : World) (a b : Value) : Prop := ∀ (A : Around) (Q : Value → Shared → Prop) (s : Shared), Q (.bool false) s → WP w A (compareOp .Is a b) Q s
noncomputable def IsT (w : World) (a b : Value) : Prop := ∀ (A : Around) (Q : Value → Shared → Prop) (s : Shared), Q (.bool true) s → WP w A (compareOp .Is a b) Q s
theorem isF_none {w : World} {x : Str} {t : Tok} : IsF w (.str x t) .none := fun A Q s y => wpAny_is_other rfl (by intro e; cases e) y
theorem isF_str {w : World} {x y : Str} {t u : Tok} (h0 : t ≠ 0) (h1 : u ≠ 0) (h2 : t ≠ u) (hxy : x ≠ y) : IsF w (.str x t) (.str y u) := fun A Q s z => by
  show wpAny _ A (isSame.created (x == y) t u >>= _) Q _ s
  unfold isSame.created
  refine wpAny_bind ?_
  rw [if_neg (by simp [h0, h1]), if_neg (by simpa using h2)]
  rw [if_pos (by simpa using hxy)]
  exact wpAny_pure (wpAny_pure z)
theorem isT_str {w : World} {x : Str} {t : Tok} (h0 : t ≠ 0) : IsT w (.str x t) (.str x t) := fun A Q s z => by
  show wpAny _ A (isSame.created (x == x) t t >>= _) Q _ s
  unfold isSame.created
  refine wpAny_bind ?_
  rw [if_neg (by simp [h0]), if_pos (by simp)]
  exact wpAny_pure (wpAny_pure z)
theorem r_ret0 {w : World} {A : Around} {env : Env} {pos : Pos} {P : Shared → Prop} {Q : Flow → Shared → Prop} {s : Shared} (x : Q (.ret .none) s) : WP w A (exec (.Return none pos) env) (Seq P Q) s := by
  intro Γ p hΓ; exact x
theorem lk_181 (P : Params) : (KF P).lookup 181 = some (o181 P) := by kernel_rfl!
theorem cd_181 (P : Params) : codeIn (KF P) (.ref 180) (Str.ofString "SequenceMatcher.set_seq1") = true := by kernel_rfl!
theorem lk_188 (P : Params) : (KF P).lookup 188 = some (o188 P) := by kernel_rfl!
theorem cd_188 (P : Params) : codeIn (KF P) (.ref 187) (Str.ofString "SequenceMatcher.set_seq2") = true := by kernel_rfl!
theorem lk_174 (P : Params) : (KF P).lookup 174 = some (o174 P) := by kernel_rfl!
theorem cd_174 (P : Params) : codeIn (KF P) (.ref 173) (Str.ofString "SequenceMatcher.set_seqs") = true := by kernel_rfl!
theorem lk_167 (P : Params) : (KF P).lookup 167 = some (o167 P) := by kernel_rfl!
theorem cd_167 (P : Params) : codeIn (KF P) (.ref 166) (Str.ofString "SequenceMatcher.__init__") = true := by kernel_rfl!
theorem lk_160 (P : Params) : (KF P).lookup 160 = some (o160 P) := by kernel_rfl!
theorem fm_seq1 (P : Params) : findIn (KF P) (.ref 249) (Str.ofString "set_seq1") = some (some (.ref 181)) := by kernel_rfl!
theorem fn_seq1 (P : Params) : isFn (KF P) (.ref 181) = true := by kernel_rfl!
theorem fm_seq2 (P : Params) : findIn (KF P) (.ref 249) (Str.ofString "set_seq2") = some (some (.ref 188)) := by kernel_rfl!
theorem fn_seq2 (P : Params) : isFn (KF P) (.ref 188) = true := by kernel_rfl!
theorem fm_seqs (P : Params) : findIn (KF P) (.ref 249) (Str.ofString "set_seqs") = some (some (.ref 174)) := by kernel_rfl!
theorem fn_seqs (P : Params) : isFn (KF P) (.ref 174) = true := by kernel_rfl!
section
variable {w : World} {A : Around} {gs : Array GenState} {dr : Drawn} {os : OsState} {g h : Heap} {t : Nat} {d u : Nat} {L : Addr} {m : Str → Option Value} {news : List (Addr × Obj)} {mt dm : Addr} {es : List DictEntry} {nd c : Nat} {vs : List (Option Value)} {x : Str} {tx : Tok} {v1 : Value}
theorem m_def {f : Addr} {name : Str} {pl : Sem Bool} {Q : Value × List Value → Shared → Prop} (B : Bs w g) (H : Hp g L h m news) (M : Mat h mt dm es nd) (fm : findIn (KF w.params) (.ref 249) name = some (some (.ref f))) (fn : isFn (KF w.params) (.ref f) = true) (hl : look es name = none) (y : Q (.ref f, [.ref mt]) ⟨h, gs, dr, t, os⟩) :
    WP w A (getMethod (.ref mt) name pl) Q ⟨h, gs, dr, t, os⟩ :=
  method_inst (s := ⟨h, gs, dr, t, os⟩) H.F B.K M.inst (sm_plain _ _) fm fn (by rw [getL_look M.s, hl]) y
set_option maxHeartbeats 2000000 in
theorem seq1_new {Q : Value → Shared → Prop} (B : Bs w g) (kg : Ext g h) (hs : g.objs.size ≤ h.objs.size) (hA : AOk A d u) (hd : d + 1 < recursionLimit) (hm : g.get? mt = some (instObj 249 dm)) (hdn : g.get? dm = none) (hdm : h.get? dm = some (dictOf es nd)) (at_ : Att es vs c) (hc : c ≤ 800)
    (e1 : vs[1]? = some (some v1)) (hv : handedIn v1 = true) (hi : IsF w (.str x tx) v1)
    (y : ∀ (h' : Heap) (t' : Nat) (es' : List DictEntry) (nd' : Nat), ExtB dm h h' → h'.get? dm = some (dictOf es' nd') → Att es' (((vs.set 1 (some (.str x tx))).set 4 (some .none)).set 5 (some .none)) (c + 3) → Q .none ⟨h', gs, dr, t', os⟩) :
    WP w A (call (.ref 181) [.ref mt, .str x tx]) Q ⟨h, gs, dr, t, os⟩ := by
  obtain ⟨g', B', k1, k2, e1', e2', e3'⟩ := lift B kg hs hdn hdm
  refine enter (vs := [.ref mt, .str x tx]) (ns := ns_seq1) (news := [(dm, dictOf es nd)]) g' B' k2 (Nat.le_of_eq e1') (by intro p hp; simp at hp; subst hp; exact ⟨hdm, e2'⟩) (by simp) hA (by (first|lia|omega)) ok_seq1 (lk_181 _) (cd_181 _) (.of_eq (by kernel_rfl!)) (by kernel_rfl!) (by kernel_rfl!) (by kernel_rfl!) ?_
  intro h1 t1 H kk
  change WP w _ (execs (bodyOf (me 8 3)) (env_seq1 h.objs.size)) _ _
  generalize A.deeper _ = A1
  change Hp g' h.objs.size h1 (LV ns_seq1 [some (.ref mt), some (.str x tx)]) [(dm, dictOf es nd)] at H
  have hm' := k1 _ _ hm
  refine r_cons ?_
  refine r_expr ?_
  (with_reducible refine e_str ?_; intro _ _)
  refine r_cons ?_
  refine r_if ?_
  refine t_cmp ?_
  (with_reducible refine ld_seq1_1 ‹_› ?_)
  refine e_attr ?_
  (with_reducible refine ld_seq1_0 ‹_› ?_)
  refine m_getA 0 1 B' H (H.F.keep _ _ hm') rfl at_ rfl e1 (fi_a _) hv fun t2 => ?_
  refine g_go ?_
  refine hi _ _ _ ?_
  refine t_bool ?_
  rw [if_neg (by decide)]
  refine r_nil ?_
  refine r_cons ?_
  refine r_attr ?_
  (with_reducible refine ld_seq1_1 ‹_› ?_)
  refine a_attr ?_
  (with_reducible refine ld_seq1_0 ‹_› ?_)
  refine m_set 0 1 B' H (H.F.keep _ _ hm') rfl at_ rfl (by (first|lia|omega)) fun h5 t5 es5 nd5 at5 H5 => ?_
  dsimp only [List.set] at H5
  refine r_cons ?_
  refine r_two ?_
  refine e_none ?_
  refine a_attr ?_
  (with_reducible refine ld_seq1_0 ‹_› ?_)
  refine m_set 0 4 B' H5 (H5.F.keep _ _ hm') rfl at5 rfl (by (first|lia|omega)) fun h6 t6 es6 nd6 at6 H6 => ?_
  dsimp only [List.set] at H6
  refine a_attr ?_
  (with_reducible refine ld_seq1_0 ‹_› ?_)
  refine m_set 0 5 B' H6 (H6.F.keep _ _ hm') rfl at6 rfl (by (first|lia|omega)) fun h7 t7 es7 nd7 at7 H7 => ?_
  dsimp only [List.set] at H7
  refine r_nilQ ?_
  obtain ⟨q1, q2, q3⟩ := nw_of H7 e3'
  exact y h7 _ es7 nd7 q1 q2 at7
set_option maxHeartbeats 2000000 in
theorem seq1_same {Q : Value → Shared → Prop} (B : Bs w h) (hA : AOk A d u) (hd : d + 1 < recursionLimit) (hm : h.get? mt = some (instObj 249 dm)) (hdm : h.get? dm = some (dictOf es nd)) (at_ : Att es vs c)
    (e1 : vs[1]? = some (some v1)) (hv : handedIn v1 = true) (hi : IsT w (.str x tx) v1)
    (y : ∀ (h' : Heap) (t' : Nat), Ext h h' → Q .none ⟨h', gs, dr, t', os⟩) :
    WP w A (call (.ref 181) [.ref mt, .str x tx]) Q ⟨h, gs, dr, t, os⟩ := by
  refine enter (vs := [.ref mt, .str x tx]) (ns := ns_seq1) (news := []) h B (Ext.refl h) (Nat.le_refl _) (by simp) (by simp) hA (by (first|lia|omega)) ok_seq1 (lk_181 _) (cd_181 _) (.of_eq (by kernel_rfl!)) (by kernel_rfl!) (by kernel_rfl!) (by kernel_rfl!) ?_
  intro h1 t1 H kk
  change WP w _ (execs (bodyOf (me 8 3)) (env_seq1 h.objs.size)) _ _
  generalize A.deeper _ = A1
  change Hp h h.objs.size h1 (LV ns_seq1 [some (.ref mt), some (.str x tx)]) [] at H
  have M : Mat h mt dm es nd := ⟨hm, hdm, at_.s⟩
  refine r_cons ?_
  refine r_expr ?_
  (with_reducible refine e_str ?_; intro _ _)
  refine r_cons ?_
  refine r_if ?_
  refine t_cmp ?_
  (with_reducible refine ld_seq1_1 ‹_› ?_)
  refine e_attr ?_
  (with_reducible refine ld_seq1_0 ‹_› ?_)
  refine mg_a B H M (at_.get 1 rfl e1) hv fun t2 => ?_
  refine g_go ?_
  refine hi _ _ _ ?_
  refine t_bool ?_
  rw [if_pos rfl]
  refine r_cons ?_
  refine r_ret0 ?_
  exact y h1 _ H.F.keep
end
section
variable {w : World} {A : Around} {gs : Array GenState} {dr : Drawn} {os : OsState} {g h : Heap} {t : Nat} {d u : Nat} {L : Addr} {m : Str → Option Value} {news : List (Addr × Obj)} {mt dm : Addr} {es : List DictEntry} {nd c : Nat} {vs : List (Option Value)} {x a b : Str} {tx ta tb : Tok} {v1 v2 : Value}
set_option maxHeartbeats 2000000 in
theorem seq2_new {Q : Value → Shared → Prop} (B : Bs w g) (kg : Ext g h) (hs : g.objs.size ≤ h.objs.size) (hA : AOk A d u) (hd : d + 2 < recursionLimit) (hm : g.get? mt = some (instObj 249 dm)) (hdn : g.get? dm = none) (hdm : h.get? dm = some (dictOf es nd)) (at_ : Att es vs c) (hc : c ≤ 700)
    (e0 : vs[0]? = some (some .none)) (e3 : vs[3]? = some (some (.bool false)))
    (e2 : vs[2]? = some (some v1)) (hv : handedIn v1 = true) (hi : IsF w (.str x tx) v1) (hx : x.length ≤ 1000)
    (y : ∀ (h' : Heap) (t' : Nat) (D J PP : Addr) (es' : List DictEntry) (nd' : Nat) (nw : List (Addr × Obj)), ExtB dm h h' → h'.get? dm = some (dictOf es' nd') → Nw h h' nw → Att es' (((((((vs.set 2 (some (.str x tx))).set 4 (some .none)).set 5 (some .none)).set 6 (some .none)).set 7 (some (.ref D))).set 8 (some (.ref J))).set 9 (some (.ref PP))) (c + 7) → Sta w nw D J x.cps.toList → Q .none ⟨h', gs, dr, t', os⟩) :
    WP w A (call (.ref 188) [.ref mt, .str x tx]) Q ⟨h, gs, dr, t, os⟩ := by
  obtain ⟨g', B', k1, k2, e1', e2', e3'⟩ := lift B kg hs hdn hdm
  refine enter (vs := [.ref mt, .str x tx]) (ns := ns_seq2) (news := [(dm, dictOf es nd)]) g' B' k2 (Nat.le_of_eq e1') (by intro p hp; simp at hp; subst hp; exact ⟨hdm, e2'⟩) (by simp) hA (by (first|lia|omega)) ok_seq2 (lk_188 _) (cd_188 _) (.of_eq (by kernel_rfl!)) (by kernel_rfl!) (by kernel_rfl!) (by kernel_rfl!) ?_
  intro h1 t1 H kk
  change WP w _ (execs (bodyOf (me 8 4)) (env_seq2 h.objs.size)) _ _
  have hA1 := hA.deeper (envOf (Str.ofString "SequenceMatcher.set_seq2") (scoOf (me 8 4)) h.objs.size 188 (.ref 187))
  generalize A.deeper _ = A1 at hA1 ⊢
  change Hp g' h.objs.size h1 (LV ns_seq2 [some (.ref mt), some (.str x tx)]) [(dm, dictOf es nd)] at H
  have hm' := k1 _ _ hm
  refine r_cons ?_
  refine r_expr ?_
  (with_reducible refine e_str ?_; intro _ _)
  refine r_cons ?_
  refine r_if ?_
  refine t_cmp ?_
  (with_reducible refine ld_seq2_1 ‹_› ?_)
  refine e_attr ?_
  (with_reducible refine ld_seq2_0 ‹_› ?_)
  refine m_getA 0 2 B' H (H.F.keep _ _ hm') rfl at_ rfl e2 (fi_b _) hv fun t2 => ?_
  refine g_go ?_
  refine hi _ _ _ ?_
  refine t_bool ?_
  rw [if_neg (by decide)]
  refine r_nil ?_
  refine r_cons ?_
  refine r_attr ?_
  (with_reducible refine ld_seq2_1 ‹_› ?_)
  refine a_attr ?_
  (with_reducible refine ld_seq2_0 ‹_› ?_)
  refine m_set 0 2 B' H (H.F.keep _ _ hm') rfl at_ rfl (by (first|lia|omega)) fun h5 t5 es5 nd5 at5 H5 => ?_
  dsimp only [List.set] at H5
  refine r_cons ?_
  refine r_two ?_
  refine e_none ?_
  refine a_attr ?_
  (with_reducible refine ld_seq2_0 ‹_› ?_)
  refine m_set 0 4 B' H5 (H5.F.keep _ _ hm') rfl at5 rfl (by (first|lia|omega)) fun h6 t6 es6 nd6 at6 H6 => ?_
  dsimp only [List.set] at H6
  refine a_attr ?_
  (with_reducible refine ld_seq2_0 ‹_› ?_)
  refine m_set 0 5 B' H6 (H6.F.keep _ _ hm') rfl at6 rfl (by (first|lia|omega)) fun h7 t7 es7 nd7 at7 H7 => ?_
  dsimp only [List.set] at H7
  refine r_cons ?_
  refine r_attr ?_
  refine e_none ?_
  refine a_attr ?_
  (with_reducible refine ld_seq2_0 ‹_› ?_)
  refine m_set 0 6 B' H7 (H7.F.keep _ _ hm') rfl at7 rfl (by (first|lia|omega)) fun h8 t8 es8 nd8 at8 H8 => ?_
  dsimp only [List.set] at H8
  have hlen : vs.length = 10 := at_.len.symm
  refine r_cons ?_
  refine r_expr ?_
  refine e_meth ?_
  (with_reducible refine ld_seq2_0 ‹_› ?_)
  refine m_def B' H8 ⟨H8.F.keep _ _ hm', H8.at 0 rfl, at8.s⟩ (fm_chain _) (fn_chain _) (by rw [at8.l]; exact LV_none (by decide)) ?_
  refine call_self0 ?_
  refine keep_fn (H8.F.keep _ _ (B'.K _ _ (lk_195 _))) rfl ?_
  have sz : g'.objs.size ≤ h8.objs.size := Nat.le_trans H8.F.above (Nat.le_of_lt H8.ltL)
  have gv : ∀ (k : Nat) (v : Option Value), k ≠ 2 → k ≠ 4 → k ≠ 5 → k ≠ 6 → vs[k]? = some v → ((((vs.set 2 (some (.str x tx))).set 4 (some .none)).set 5 (some .none)).set 6 (some .none))[k]? = some v := fun k v h1 h2 h3 h4 e => by
    rw [List.getElem?_set_ne (Ne.symm h4), List.getElem?_set_ne (Ne.symm h3), List.getElem?_set_ne (Ne.symm h2), List.getElem?_set_ne (Ne.symm h1)]; exact e
  refine chain_ok (b := x) (tb := tx) B' H8.F.keep sz hA1 (by (first|lia|omega)) hm' e2' (H8.at 0 rfl) at8 (by (first|lia|omega)) (gv 0 _ (by decide) (by decide) (by decide) (by decide) e0) (by
    rw [List.getElem?_set_ne (by decide), List.getElem?_set_ne (by decide), List.getElem?_set_ne (by decide), List.getElem?_set_self (by (first|lia|omega))]) (gv 3 _ (by decide) (by decide) (by decide) (by decide) e3) hx ?_
  intro h9 t9 D J PP es9 nd9 nw q1 q2 q3 at9 S9
  have H9 := H8.addAll 0 rfl q1 q2 q3
  dsimp only [List.set] at H9
  have H9' := H9.perm List.perm_append_comm
  refine r_nilQ ?_
  obtain ⟨z1, z2, z3⟩ := nw_of H9' e3'
  exact y h9 _ D J PP es9 nd9 nw z1 z2 z3 at9 S9
set_option maxHeartbeats 2000000 in
theorem seq2_same {Q : Value → Shared → Prop} (B : Bs w h) (hA : AOk A d u) (hd : d + 1 < recursionLimit) (hm : h.get? mt = some (instObj 249 dm)) (hdm : h.get? dm = some (dictOf es nd)) (at_ : Att es vs c)
    (e1 : vs[2]? = some (some v1)) (hv : handedIn v1 = true) (hi : IsT w (.str x tx) v1)
    (y : ∀ (h' : Heap) (t' : Nat), Ext h h' → Q .none ⟨h', gs, dr, t', os⟩) :
    WP w A (call (.ref 188) [.ref mt, .str x tx]) Q ⟨h, gs, dr, t, os⟩ := by
  refine enter (vs := [.ref mt, .str x tx]) (ns := ns_seq2) (news := []) h B (Ext.refl h) (Nat.le_refl _) (by simp) (by simp) hA (by (first|lia|omega)) ok_seq2 (lk_188 _) (cd_188 _) (.of_eq (by kernel_rfl!)) (by kernel_rfl!) (by kernel_rfl!) (by kernel_rfl!) ?_
  intro h1 t1 H kk
  change WP w _ (execs (bodyOf (me 8 4)) (env_seq2 h.objs.size)) _ _
  generalize A.deeper _ = A1
  change Hp h h.objs.size h1 (LV ns_seq2 [some (.ref mt), some (.str x tx)]) [] at H
  have M : Mat h mt dm es nd := ⟨hm, hdm, at_.s⟩
  refine r_cons ?_
  refine r_expr ?_
  (with_reducible refine e_str ?_; intro _ _)
  refine r_cons ?_
  refine r_if ?_
  refine t_cmp ?_
  (with_reducible refine ld_seq2_1 ‹_› ?_)
  refine e_attr ?_
  (with_reducible refine ld_seq2_0 ‹_› ?_)
  refine mg_b B H M (at_.get 2 rfl e1) hv fun t2 => ?_
  refine g_go ?_
  refine hi _ _ _ ?_
  refine t_bool ?_
  rw [if_pos rfl]
  refine r_cons ?_
  refine r_ret0 ?_
  exact y h1 _ H.F.keep
-- the attributes after set_seqs(a, b) with two new texts
noncomputable abbrev vsAB (vs : List (Option Value)) (a b : Str) (ta tb : Tok) (D J PP : Addr) : List (Option Value) :=
  (((((((((((vs.set 1 (some (.str a ta))).set 4 (some .none)).set 5 (some .none)).set 2 (some (.str b tb))).set 4 (some .none)).set 5 (some .none)).set 6 (some .none)).set 7 (some (.ref D))).set 8 (some (.ref J))).set 9 (some (.ref PP))))
set_option maxHeartbeats 2000000 in
theorem seqs_new {Q : Value → Shared → Prop} (B : Bs w g) (kg : Ext g h) (hs : g.objs.size ≤ h.objs.size) (hA : AOk A d u) (hd : d + 3 < recursionLimit) (hm : g.get? mt = some (instObj 249 dm)) (hdn : g.get? dm = none) (hdm : h.get? dm = some (dictOf es nd)) (at_ : Att es vs c) (hc : c ≤ 600)
    (e0 : vs[0]? = some (some .none)) (e3 : vs[3]? = some (some (.bool false)))
    (e1 : vs[1]? = some (some v1)) (e2 : vs[2]? = some (some v2)) (hv1 : handedIn v1 = true) (hv2 : handedIn v2 = true) (hi1 : IsF w (.str a ta) v1) (hi2 : IsF w (.str b tb) v2) (hb : b.length ≤ 1000)
    (y : ∀ (h' : Heap) (t' : Nat) (D J PP : Addr) (es' : List DictEntry) (nd' : Nat) (nw : List (Addr × Obj)), ExtB dm h h' → h'.get? dm = some (dictOf es' nd') → Nw h h' nw → Att es' (vsAB vs a b ta tb D J PP) (c + 10) → Sta w nw D J b.cps.toList → Q .none ⟨h', gs, dr, t', os⟩) :
    WP w A (call (.ref 174) [.ref mt, .str a ta, .str b tb]) Q ⟨h, gs, dr, t, os⟩ := by
  obtain ⟨g', B', k1, k2, e1', e2', e3'⟩ := lift B kg hs hdn hdm
  refine enter (vs := [.ref mt, .str a ta, .str b tb]) (ns := ns_seqs) (news := [(dm, dictOf es nd)]) g' B' k2 (Nat.le_of_eq e1') (by intro p hp; simp at hp; subst hp; exact ⟨hdm, e2'⟩) (by simp) hA (by (first|lia|omega)) ok_seqs (lk_174 _) (cd_174 _) (.of_eq (by kernel_rfl!)) (by kernel_rfl!) (by kernel_rfl!) (by kernel_rfl!) ?_
  intro h1 t1 H kk
  change WP w _ (execs (bodyOf (me 8 2)) (env_seqs h.objs.size)) _ _
  have hA1 := hA.deeper (envOf (Str.ofString "SequenceMatcher.set_seqs") (scoOf (me 8 2)) h.objs.size 174 (.ref 173))
  generalize A.deeper _ = A1 at hA1 ⊢
  change Hp g' h.objs.size h1 (LV ns_seqs [some (.ref mt), some (.str a ta), some (.str b tb)]) [(dm, dictOf es nd)] at H
  have hm' := k1 _ _ hm
  have hlen : vs.length = 10 := at_.len.symm
  refine r_cons ?_
  refine r_expr ?_
  (with_reducible refine e_str ?_; intro _ _)
  refine r_cons ?_
  refine r_expr ?_
  refine e_meth ?_
  (with_reducible refine ld_seqs_0 ‹_› ?_)
  refine m_def B' H ⟨H.F.keep _ _ hm', H.at 0 rfl, at_.s⟩ (fm_seq1 _) (fn_seq1 _) (by rw [at_.l]; exact LV_none (by decide)) ?_
  refine call_self ?_
  refine sp_cons ?_
  (with_reducible refine ld_seqs_1 ‹_› ?_)
  refine sp_nil ?_
  refine keep_fn (H.F.keep _ _ (B'.K _ _ (lk_181 _))) rfl ?_
  refine seq1_new B' H.F.keep (Nat.le_trans H.F.above (Nat.le_of_lt H.ltL)) hA1 (by (first|lia|omega)) hm' e2' (H.at 0 rfl) at_ (by (first|lia|omega)) e1 hv1 hi1 fun h2 t2 es2 nd2 q1 q2 at2 => ?_
  have H2 := H.extB 0 rfl q1 q2
  dsimp only [List.set] at H2
  refine r_cons ?_
  refine r_expr ?_
  refine e_meth ?_
  (with_reducible refine ld_seqs_0 ‹_› ?_)
  refine m_def B' H2 ⟨H2.F.keep _ _ hm', H2.at 0 rfl, at2.s⟩ (fm_seq2 _) (fn_seq2 _) (by rw [at2.l]; exact LV_none (by decide)) ?_
  refine call_self ?_
  refine sp_cons ?_
  (with_reducible refine ld_seqs_2 ‹_› ?_)
  refine sp_nil ?_
  refine keep_fn (H2.F.keep _ _ (B'.K _ _ (lk_188 _))) rfl ?_
  have gv : ∀ (k : Nat) (v : Option Value), k ≠ 1 → k ≠ 4 → k ≠ 5 → vs[k]? = some v → (((vs.set 1 (some (.str a ta))).set 4 (some .none)).set 5 (some .none))[k]? = some v := fun k v h1 h2 h3 e => by
    rw [List.getElem?_set_ne (Ne.symm h3), List.getElem?_set_ne (Ne.symm h2), List.getElem?_set_ne (Ne.symm h1)]; exact e
  refine seq2_new B' H2.F.keep (Nat.le_trans H2.F.above (Nat.le_of_lt H2.ltL)) hA1 (by (first|lia|omega)) hm' e2' (H2.at 0 rfl) at2 (by (first|lia|omega)) (gv 0 _ (by decide) (by decide) (by decide) e0) (gv 3 _ (by decide) (by decide) (by decide) e3) (gv 2 _ (by decide) (by decide) (by decide) e2) hv2 hi2 hb ?_
  intro h9 t9 D J PP es9 nd9 nw q1 q2 q3 at9 S9
  have H9 := H2.addAll 0 rfl q1 q2 q3
  dsimp only [List.set] at H9
  have H9' := H9.perm List.perm_append_comm
  refine r_nilQ ?_
  obtain ⟨z1, z2, z3⟩ := nw_of H9' e3'
  exact y h9 _ D J PP es9 nd9 nw z1 z2 z3 at9 S9
set_option maxHeartbeats 2000000 in
theorem seqs_same {Q : Value → Shared → Prop} (B : Bs w h) (hA : AOk A d u) (hd : d + 3 < recursionLimit) (hm : h.get? mt = some (instObj 249 dm)) (hdm : h.get? dm = some (dictOf es nd)) (at_ : Att es vs c)
    (e1 : vs[1]? = some (some v1)) (e2 : vs[2]? = some (some v2)) (hv1 : handedIn v1 = true) (hv2 : handedIn v2 = true) (hi1 : IsT w (.str a ta) v1) (hi2 : IsT w (.str b tb) v2)
    (y : ∀ (h' : Heap) (t' : Nat), Ext h h' → Q .none ⟨h', gs, dr, t', os⟩) :
    WP w A (call (.ref 174) [.ref mt, .str a ta, .str b tb]) Q ⟨h, gs, dr, t, os⟩ := by
  refine enter (vs := [.ref mt, .str a ta, .str b tb]) (ns := ns_seqs) (news := []) h B (Ext.refl h) (Nat.le_refl _) (by simp) (by simp) hA (by (first|lia|omega)) ok_seqs (lk_174 _) (cd_174 _) (.of_eq (by kernel_rfl!)) (by kernel_rfl!) (by kernel_rfl!) (by kernel_rfl!) ?_
  intro h1 t1 H kk
  change WP w _ (execs (bodyOf (me 8 2)) (env_seqs h.objs.size)) _ _
  have hA1 := hA.deeper (envOf (Str.ofString "SequenceMatcher.set_seqs") (scoOf (me 8 2)) h.objs.size 174 (.ref 173))
  generalize A.deeper _ = A1 at hA1 ⊢
  change Hp h h.objs.size h1 (LV ns_seqs [some (.ref mt), some (.str a ta), some (.str b tb)]) [] at H
  refine r_cons ?_
  refine r_expr ?_
  (with_reducible refine e_str ?_; intro _ _)
  refine r_cons ?_
  refine r_expr ?_
  refine e_meth ?_
  (with_reducible refine ld_seqs_0 ‹_› ?_)
  refine m_def B H ⟨H.F.keep _ _ hm, H.F.keep _ _ hdm, at_.s⟩ (fm_seq1 _) (fn_seq1 _) (by rw [at_.l]; exact LV_none (by decide)) ?_
  refine call_self ?_
  refine sp_cons ?_
  (with_reducible refine ld_seqs_1 ‹_› ?_)
  refine sp_nil ?_
  refine keep_fn (H.F.keep _ _ (B.K _ _ (lk_181 _))) rfl ?_
  refine seq1_same (B.keeps H.F.keep) hA1 (by (first|lia|omega)) (H.F.keep _ _ hm) (H.F.keep _ _ hdm) at_ e1 hv1 hi1 fun h2 t2 q => ?_
  have H2 := H.ext q
  refine r_cons ?_
  refine r_expr ?_
  refine e_meth ?_
  (with_reducible refine ld_seqs_0 ‹_› ?_)
  refine m_def B H2 ⟨H2.F.keep _ _ hm, H2.F.keep _ _ hdm, at_.s⟩ (fm_seq2 _) (fn_seq2 _) (by rw [at_.l]; exact LV_none (by decide)) ?_
  refine call_self ?_
  refine sp_cons ?_
  (with_reducible refine ld_seqs_2 ‹_› ?_)
  refine sp_nil ?_
  refine keep_fn (H2.F.keep _ _ (B.K _ _ (lk_188 _))) rfl ?_
  refine seq2_same (B.keeps H2.F.keep) hA1 (by (first|lia|omega)) (H2.F.keep _ _ hm) (H2.F.keep _ _ hdm) at_ e2 hv2 hi2 fun h3 t3 q3 => ?_
  refine r_nilQ ?_
  exact y h3 _ (H2.ext q3).F.keep
end
noncomputable def is167 : Code → Bool
  | .call (.ref 167) _ => true
  | _ => false
section
variable (p : Program) (P : Params) (a b c e : Value) (n t : Nat)
theorem sc1 : run (kfP P) fastT ⟨p, P⟩ 400 none n t (nn 2) Fin (callAny (.ref 249) ⟨[a, b, c, e], []⟩) = some ⟨.ok (.again (.call (.builtin "type.__call__") ⟨[.ref 249, a, b, c, e], []⟩)), t, [], n, []⟩ := by kernel_rfl!
theorem sc2 : run (kfP P) fastT ⟨p, P⟩ 400 none n t (nn 1) Fin (callAny (.builtin "type.__call__") ⟨[.ref 249, a, b, c, e], []⟩) = some ⟨.ok (.again (.builtin "type.__call__" ⟨[.ref 249, a, b, c, e], []⟩)), t, [], n, []⟩ := by kernel_rfl!
noncomputable def scI := runTo (kfP P) fastT ⟨p, P⟩ is167 400 none n t (nn 23 ++ [some (instObj 249 n), none, some (instObj 249 n)] ++ nn 4) Fin (denote fastT (.builtin "type.__call__" ⟨[.ref 249, a, b, c, e], []⟩))
theorem sc3 : (scI p P a b c e n t).map (fun r => (r.t, r.os, r.n, r.evs, r.c)) = some (t, [], n + 1 + 1, [.alloc emptyDict, .alloc (instObj 249 n), .load (n + 1) (instObj 249 n), .load (n + 1) (instObj 249 n)], .call (.ref 167) ⟨[.ref (n + 1), a, b, c, e], []⟩) := by kernel_rfl!
theorem sc4 (n2 t2 : Nat) : (scI p P a b c e n t).map (fun r => run (kfP P) fastT ⟨p, P⟩ 400 none n2 t2 [] Fin (r.k (.ok (.ret .none)))) = some (some ⟨.ok (.done (.ret (.ref (n + 1)))), t2, [], n2, []⟩) := by kernel_rfl!
end
theorem LV_allnone : ∀ (ns : List String) (k : Nat) (y : Str), LV ns (List.replicate k none) y = none
  | [], k, y => by cases k <;> rfl
  | n :: ns, 0, y => rfl
  | n :: ns, k + 1, y => by
    simp only [List.replicate, LV]
    split
    · rfl
    · exact LV_allnone ns k y
theorem att0 : Att [] (List.replicate 10 none) 0 := ⟨(by intro _ h; cases h), (fun y => by rw [LV_allnone]; rfl), Nat.le_refl _, rfl⟩
-- the attributes of a new matcher
noncomputable abbrev vsNew (a b : Str) (ta tb : Tok) (D J PP : Addr) : List (Option Value) := [some .none, some (.str a ta), some (.str b tb), some (.bool false), some .none, some .none, some .none, some (.ref D), some (.ref J), some (.ref PP)]
section
variable {w : World} {A : Around} {gs : Array GenState} {dr : Drawn} {os : OsState} {g h h2 : Heap} {t : Nat} {d u : Nat} {L : Addr} {m : Str → Option Value} {news : List (Addr × Obj)} {mt dm : Addr} {a b : Str} {ta tb : Tok}
theorem binds_167 {x y z v q : Value} (X : (KF w.params).In h) : BindsTo ⟨h, gs, dr, t, os⟩ (fnOf (S "__init__") (S "SequenceMatcher.__init__") (parOf (me 8 1)) (bodyOf (me 8 1)) (scoOf (me 8 1)) (.ref 160) .none (.str (dok (me 8 1)) 430) (.str (S "cpy313.difflib") 208) none (.ref 166) .none) ⟨[x, y, z, v, q], []⟩ ((ns_init.map Str.ofString).zip [x, y, z, v, q]) :=
  BindsTo.of_defaults rfl (X _ _ (lk_160 _)) rfl rfl (by kernel_rfl!)
set_option maxHeartbeats 4000000 in
theorem init_ok {Q : Value → Shared → Prop} (B : Bs w h) (k : Ext h h2) (hs : h.objs.size ≤ h2.objs.size) (hA : AOk A d u) (hd : d + 4 < recursionLimit) (hn2 : h.get? dm = none) (hne : mt ≠ dm) (hm : h2.get? mt = some (instObj 249 dm)) (hdm : h2.get? dm = some (dictOf [] 0)) (hb : b.length ≤ 1000)
    (y : ∀ (h' : Heap) (t' : Nat) (D J PP : Addr) (es' : List DictEntry) (nd' : Nat) (nw : List (Addr × Obj)), ExtB dm h2 h' → h'.get? dm = some (dictOf es' nd') → Nw h2 h' nw → Att es' (vsNew a b ta tb D J PP) 14 → Sta w nw D J b.cps.toList → Q .none ⟨h', gs, dr, t', os⟩) :
    codeAny (model pw w) A (.call (.ref 167) ⟨[.ref mt, .none, .str a ta, .str b tb, .bool false], []⟩) (fun r s' => match r with | .ok (.ret v) => Q v s' | .ok _ => False | .error e => False) ⟨h2, gs, dr, t, os⟩ := by
  have X : (KF w.params).In h2 := fun a o e => k _ _ (B.K a o e)
  obtain ⟨g', B', k1, k2, e1', e2', e3'⟩ := lift B k hs hn2 hdm
  have hm' : g'.get? mt = some (instObj 249 dm) := (e3' mt hne).trans hm
  refine enterC (vs := [.ref mt, .none, .str a ta, .str b tb, .bool false]) (ns := ns_init) (news := [(dm, dictOf [] 0)]) g' B' k2 (Nat.le_of_eq e1') (by intro p hp; simp at hp; subst hp; exact ⟨hdm, e2'⟩) (by simp) hA (by (first|lia|omega)) ok_init (lk_167 _) (cd_167 _) (binds_167 X) (by kernel_rfl!) (by kernel_rfl!) (by kernel_rfl!) ?_
  intro h1 t1 H kk
  change WP w _ (execs (bodyOf (me 8 1)) (env_init h2.objs.size)) _ _
  have hA1 := hA.deeper (envOf (Str.ofString "SequenceMatcher.__init__") (scoOf (me 8 1)) h2.objs.size 167 (.ref 166))
  generalize A.deeper _ = A1 at hA1 ⊢
  change Hp g' h2.objs.size h1 (LV ns_init [some (.ref mt), some .none, some (.str a ta), some (.str b tb), some (.bool false)]) [(dm, dictOf [] 0)] at H
  refine r_cons ?_
  refine r_expr ?_
  (with_reducible refine e_str ?_; intro _ _)
  refine r_cons ?_
  refine r_attr ?_
  (with_reducible refine ld_init_1 ‹_› ?_)
  refine a_attr ?_
  (with_reducible refine ld_init_0 ‹_› ?_)
  refine m_set 0 0 B' H (H.F.keep _ _ hm') rfl att0 rfl (by (first|lia|omega)) fun h3 t3 es3 nd3 at3 H3 => ?_
  dsimp only [List.set, List.replicate] at H3 at3
  refine r_cons ?_
  refine r_two ?_
  refine e_none ?_
  refine a_attr ?_
  (with_reducible refine ld_init_0 ‹_› ?_)
  refine m_set 0 1 B' H3 (H3.F.keep _ _ hm') rfl at3 rfl (by (first|lia|omega)) fun h4 t4 es4 nd4 at4 H4 => ?_
  dsimp only [List.set] at H4 at4
  refine a_attr ?_
  (with_reducible refine ld_init_0 ‹_› ?_)
  refine m_set 0 2 B' H4 (H4.F.keep _ _ hm') rfl at4 rfl (by (first|lia|omega)) fun h5 t5 es5 nd5 at5 H5 => ?_
  dsimp only [List.set] at H5 at5
  refine r_cons ?_
  refine r_attr ?_
  (with_reducible refine ld_init_4 ‹_› ?_)
  refine a_attr ?_
  (with_reducible refine ld_init_0 ‹_› ?_)
  refine m_set 0 3 B' H5 (H5.F.keep _ _ hm') rfl at5 rfl (by (first|lia|omega)) fun h6 t6 es6 nd6 at6 H6 => ?_
  dsimp only [List.set] at H6 at6
  refine r_cons ?_
  refine r_expr ?_
  refine e_meth ?_
  (with_reducible refine ld_init_0 ‹_› ?_)
  refine m_def B' H6 ⟨H6.F.keep _ _ hm', H6.at 0 rfl, at6.s⟩ (fm_seqs _) (fn_seqs _) (by rw [at6.l]; exact LV_none (by decide)) ?_
  refine call_self ?_
  refine sp_cons ?_
  (with_reducible refine ld_init_2 ‹_› ?_)
  refine sp_cons ?_
  (with_reducible refine ld_init_3 ‹_› ?_)
  refine sp_nil ?_
  refine keep_fn (H6.F.keep _ _ (B'.K _ _ (lk_174 _))) rfl ?_
  refine seqs_new B' H6.F.keep (Nat.le_trans H6.F.above (Nat.le_of_lt H6.ltL)) hA1 (by (first|lia|omega)) hm' e2' (H6.at 0 rfl) at6 (by (first|lia|omega)) rfl rfl rfl rfl rfl rfl isF_none isF_none hb ?_
  intro h7 t7 D J PP es7 nd7 nw q1 q2 q3 at7 S7
  have H7 := H6.addAll 0 rfl q1 q2 q3
  dsimp only [List.set] at H7
  have H7' := H7.perm List.perm_append_comm
  refine r_nilQ ?_
  obtain ⟨z1, z2, z3⟩ := nw_of H7' e3'
  exact y h7 _ D J PP es7 nd7 nw z1 z2 z3 at7 S7
-- `SequenceMatcher(None, a, b, False)`
theorem sm_new {Q : Value → Shared → Prop} (B : Bs w g) (hA : AOk A d u) (hd : d + 6 < recursionLimit) (H : Hp g L h m news) (hb : b.length ≤ 1000)
    (y : ∀ (mt dm : Addr) (h' : Heap) (t' : Nat) (D J PP : Addr) (es' : List DictEntry) (nd' : Nat) (nw : List (Addr × Obj)), Hp g L h' m (nw ++ ((mt, instObj 249 dm) :: (dm, dictOf es' nd') :: news)) → Att es' (vsNew a b ta tb D J PP) 14 → Sta w nw D J b.cps.toList → Q (.ref mt) ⟨h', gs, dr, t', os⟩) :
    WP w A (call (.ref 249) [.none, .str a ta, .str b tb, .bool false]) Q ⟨h, gs, dr, t, os⟩ := by
  have gv := given_of B H.F.keep
  refine wpAny_call (X.x_code ?_)
  have h1 := sc1 pw w.params .none (.str a ta) (.str b tb) (.bool false) h.objs.size t
  rw [← table_eq_fast] at h1
  refine run_sound (s := ⟨h, gs, dr, t, os⟩) h1 gv hA.hh rfl rfl ?_
  refine ⟨rfl, ?_⟩
  refine X.x_code ?_
  have h2 := sc2 pw w.params .none (.str a ta) (.str b tb) (.bool false) h.objs.size t
  rw [← table_eq_fast] at h2
  refine run_sound (s := ⟨h, gs, dr, t, os⟩) h2 gv hA.hh rfl rfl ?_
  refine ⟨Code.quiet_builtin _ (by decide +kernel), ?_⟩
  refine X.x_code ?_
  have h3 := sc3 pw w.params .none (.str a ta) (.str b tb) (.bool false) h.objs.size t
  cases hr : scI pw w.params .none (.str a ta) (.str b tb) (.bool false) h.objs.size t with
  | none => rw [hr] at h3; cases h3
  | some r =>
    rw [hr] at h3
    simp only [Option.map_some, Option.some.injEq, Prod.mk.injEq] at h3
    obtain ⟨e1, e2, e3, e4, e5⟩ := h3
    have hr' := hr
    unfold scI at hr'
    rw [← table_eq_fast] at hr'
    have hA2 : AOk (A.under (.builtin "type.__call__" ⟨[.ref 249, .none, .str a ta, .str b tb, .bool false], []⟩)) (d + 1) (u + 10) := (hA.under _).mono (Nat.add_le_add_left (Nat.le_of_ble_eq_true (by kernel_rfl!)) _) (Nat.add_le_add_left (Nat.le_of_ble_eq_true (by kernel_rfl!)) _)
    generalize hT : denote table (.builtin "type.__call__" ⟨[.ref 249, .none, .str a ta, .str b tb, .bool false], []⟩) = T at hr' ⊢
    generalize A.under (.builtin "type.__call__" ⟨[.ref 249, .none, .str a ta, .str b tb, .bool false], []⟩) = A2 at hA2 ⊢
    refine runTo_sound (s := ⟨h, gs, dr, t, os⟩) hr' gv hA2.hh rfl rfl ?_
    rw [e4, e5]
    have H1 := H.push emptyDict
    have H2 := H1.push (instObj 249 h.objs.size)
    have es1 : (h.push emptyDict).objs.size = h.objs.size + 1 := Heap.size_push ..
    rw [es1] at H2
    have mi := H2.at 0 rfl
    refine ⟨mi, mi, ?_⟩
    show codeAny _ _ _ _ _
    rw [e1]
    have ks : Ext h ((h.push emptyDict).push (instObj 249 h.objs.size)) := fun b o q => Heap.get?_push_of_some _ (Heap.get?_push_of_some _ q)
    have szz : h.objs.size ≤ ((h.push emptyDict).push (instObj 249 h.objs.size)).objs.size := by rw [Heap.size_push, es1]; (first|lia|omega)
    have fin := init_ok (w := w) (A := A2.mark none) (gs := gs) (dr := dr) (os := os) (t := t) (a := a) (b := b) (ta := ta) (tb := tb) (mt := h.objs.size + 1) (dm := h.objs.size) (Q := fun v s' => wpAny (model pw w) A2 (r.k (.ok (.ret v)))
        (fun fin s' => match fin with | .done f => (match (Except.ok f : Result) with | .ok (.ret v) => Q v s' | .ok _ => False | .error e => False) | .again c' => c'.quiet = true ∧ codeAny (model pw w) A c' (fun r s' => match r with | .ok (.ret v) => Q v s' | .ok _ => False | .error e => False) s') (fun e s' => False) s')
        (B.keeps H.F.keep) ks szz hA2.mark (by (first|lia|omega)) (none_of_ge (Nat.le_refl _)) (Nat.succ_ne_self _) mi (H2.at 1 rfl) hb ?_
    · exact codeAny_mono fin fun res s' z => by
        rcases res with e | (v | _ | _ | _) <;> first | exact z.elim | exact z
    intro h' t' D J PP es' nd' nw q1 q2 q3 at' S'
    have h4 := sc4 pw w.params .none (.str a ta) (.str b tb) (.bool false) h.objs.size t h'.objs.size t'
    rw [hr] at h4
    simp only [Option.map_some, Option.some.injEq] at h4
    rw [← table_eq_fast] at h4
    have H3 := H2.addAll 1 rfl q1 q2 q3
    dsimp only [List.set] at H3
    refine run_sound (s := ⟨h', gs, dr, t', os⟩) h4 (given_of B H3.F.keep) hA2.hh rfl rfl ?_
    exact y _ _ h' t' D J PP es' nd' nw H3 at' S'
end
section
variable {w : World} {A : Around} {gs : Array GenState} {dr : Drawn} {os : OsState} {g h : Heap} {t : Nat} {d u : Nat} {L : Addr} {v : Value} {qual : Str} {sc : Scope} {f : Addr} {cd : Value} {m : Str → Option Value} {ns : List String} {vs : List (Option Value)} {news : List (Addr × Obj)} {x : Str} {n : String} {pos : Pos}
theorem ldX_of {Q : Value → Shared → Prop} (ok : NamesOk ns sc) (H : Hp g L h (LV ns vs) news) (i : Nat) (h1 : ns[i]? = some n) (h2 : vs[i]? = some (some v)) (y : Q v ⟨h, gs, dr, t, os⟩) :
    WP w A (eval (.Name (Str.ofString n) pos) (envOfC qual sc L f cd)) Q ⟨h, gs, dr, t, os⟩ :=
  e_loc H.F rfl ok.kind (ok.at (List.mem_of_getElem? h1)).1 (ok.at (List.mem_of_getElem? h1)).2 (LV_get i ok.nodup h1 h2) y
theorem stX_of {vs' : List (Option Value)} {Q : Unit → Shared → Prop} (ok : NamesOk ns sc) (H : Hp g L h (LV ns vs) news) (i : Nat) (h1 : ns[i]? = some n)
    (y : ∀ h' t', Hp g L h' (LV ns vs') news → Q () ⟨h', gs, dr, t', os⟩) (hl : ns.length = vs.length := by rfl) (hv : vs.set i (some v) = vs' := by rfl) :
    WP w A (storeName (envOfC qual sc L f cd) (Str.ofString n) v) Q ⟨h, gs, dr, t, os⟩ :=
  s_loc H.F H.N rfl ok.kind (ok.at (List.mem_of_getElem? h1)).1 (hv ▸ LV_set i ok.nodup hl h1) fun h' t' F N k => y h' t' ⟨F, N, H.nd⟩
theorem gX_blt {Q : Value → Shared → Prop} (B : Bs w g) (H : Hp g L h m news) (e : nsIn (KF w.params) mainGlobals x = some none) (hv : bootBuiltins x = some v) (hn : x ≠ "__name__") (y : Q v ⟨h, gs, dr, t, os⟩)
    (hk : sc.kind = .function) (hx : sc.names.lookup x = some .globalImplicit) (hd : (x == ("__debug__" : Str)) = false := by decide) :
    WP w A (eval (.Name x pos) (envOfC qual sc L f cd)) Q ⟨h, gs, dr, t, os⟩ := by
  obtain ⟨mg, mb, mean, B⟩ := B
  exact nameX_B (cl := cellsFrom (L + 1) sc.names []) H.F B.K (topRead_of B.T) e hv hn y hk hx hd
theorem ldC_of {Q : Value → Shared → Prop} {c : Addr} {o : Obj} (H : Hp g L h m news) (i : Nat) (e : news[i]? = some (c, o)) (hd : o.data = .cell (some v)) (hc : (cellsFrom (L + 1) sc.names []).lookup x = some c) (hk : sc.kind = .function) (hx : sc.names.lookup x = some .cell) (hb : (x == ("__debug__" : Str)) = false) (y : Q v ⟨h, gs, dr, t, os⟩) :
    WP w A (eval (.Name x pos) (envOfC qual sc L f cd)) Q ⟨h, gs, dr, t, os⟩ := wpAny_Name (wpAny_loadName_cell hk hx hc ⟨o, H.at i e, hd⟩ y) hb
theorem stC_of {Q : Unit → Shared → Prop} {c : Addr} {o : Obj} {v0 : Option Value} (H : Hp g L h m news) (i : Nat) (e : news[i]? = some (c, o)) (hd : o.data = .cell v0) (hc : (cellsFrom (L + 1) sc.names []).lookup x = some c) (hk : sc.kind = .function) (hx : sc.names.lookup x = some .cell)
    (y : ∀ h' o', o'.data = .cell (some v) → Hp g L h' m (news.set i (c, o')) → Q () ⟨h', gs, dr, t, os⟩) : WP w A (storeName (envOfC qual sc L f cd) x v) Q ⟨h, gs, dr, t, os⟩ :=
  wpAny_storeName_cell hk hx hc ⟨o, H.at i e, hd⟩ fun h' ⟨o', ho', hd'⟩ hs => y h' o' hd' (H.put i e hs ho')
theorem enterX {name : Str} {params : Arguments} {body : List Stmt} {scope : Scope} {dV kV doc pm cdv ct oc : Value} {an od : Option Addr} {osl : Array (Option Value)} {args : List Value} {binds : List (Str × Value)} {Q : Value → Shared → Prop}
    (B : Bs w h) (hA : AOk A d u) (hd : d < recursionLimit) (hk : scope.kind = .function)
    (ho : (KF w.params).lookup f = some ⟨oc, od, .func (fnOf name qual params body scope dV kV doc pm an cdv ct), osl⟩) (hcd : codeIn (KF w.params) cdv qual = true)
    (hbind : BindsTo ⟨h, gs, dr, t, os⟩ (fnOf name qual params body scope dV kV doc pm an cdv ct) ⟨args, []⟩ binds)
    (hkind : ∀ n, ∀ x ∈ binds, scope.names.lookup x.1 = some .local ∨ (scope.names.lookup x.1 = some .cell ∧ ((cellsFrom n scope.names []).lookup x.1).isSome = true))
    (hnd : ((cellsFrom 0 scope.names []).map (·.1)).Nodup) (hco : scope.isCoroutine = false) (hgen : scope.isGenerator = false)
    (y : ∀ h' t' cells, Fr h h.objs.size h' (bindL (envOfC qual scope h.objs.size f cdv).kindOf binds fun _ => none) → News h h.objs.size h' cells →
      CellsAre (bindC (envOfC qual scope h.objs.size f cdv).kindOf binds fun _ => none) (cellsFrom (h.objs.size + 1) scope.names []) cells → Ext h h' →
      WP w (A.deeper (envOfC qual scope h.objs.size f cdv)) (execs body (envOfC qual scope h.objs.size f cdv)) (Ret Q) ⟨h', gs, dr, t', os⟩) :
    WP w A (call (.ref f) args) Q ⟨h, gs, dr, t, os⟩ := by
  refine wpAny_call ?_
  have X : (KF w.params).In h := B.K
  refine codeAny_call_function (Nat.lt_of_le_of_lt hA.hd hd) (X _ _ ho) rfl hco hgen rfl (codeRec_of X hcd) (hbind _ _ _ _ ?_)
  refine wpAny_newFunctionEnv_cells hk (hkind _) fun env' he s' x => ?_
  subst he
  refine ⟨B.lim.keeps x.toInCall.keep, codeAny_func ?_⟩
  obtain ⟨h₁, tk, rfl, _⟩ := x.done
  have hk₁ := x.toInCall.keep
  obtain ⟨cells, NC, Y⟩ := Cl.news (h₀ := h) (Nat.le_refl _) fun n c hm => ⟨x.cell n c (lookup_of_mem_nodup (cellsFrom_names scope.names 0 (h.objs.size + 1) [] [] rfl ▸ hnd) hm), x.above n c hm⟩
  exact wpAny_mono (y h₁ tk cells ⟨x.toInCall.ns, hk₁, Nat.le_refl _⟩ NC Y hk₁) (fun fl s' z => z) fun _ _ z => z.elim
end
-- due
noncomputable def env_due (L : Addr) : Env := envOfC (Str.ofString "_law_due") (scoOf (st 10)) L 258 (.ref 257)
noncomputable def ns_due : List String := ["head", "size", "gone", "mark", "place", "low", "kept", "stop", "codes"]
theorem ok_due : NamesOk ns_due (scoOf (st 10)) := ⟨by decide, by kernel_rfl!, by kernel_rfl!⟩
theorem cl_due (n : Nat) : cellsFrom n (scoOf (st 10)).names [] = [(Str.ofString "end", n + 2), (Str.ofString "tail", n + 1), (Str.ofString "text", n + 0)] := by kernel_rfl!
section
variable {w : World} {A : Around} {gs : Array GenState} {dr : Drawn} {os : OsState} {g h : Heap} {L : Addr} {t : Nat} {v : Value} {v0 v1 v2 v3 v4 v5 v6 v7 v8 : Option Value} {r : List (Option Value)} {news : List (Addr × Obj)} {pos : Pos} {m : Str → Option Value}
theorem ld_due_0 {Q : Value → Shared → Prop} (H : Hp g L h (LV ns_due (some v :: r)) news) (y : Q v ⟨h, gs, dr, t, os⟩) : WP w A (eval (.Name (Str.ofString "head") pos) (env_due L)) Q ⟨h, gs, dr, t, os⟩ := ldX_of ok_due H 0 rfl rfl y
theorem st_due_0 {Q : Unit → Shared → Prop} (H : Hp g L h (LV ns_due [v0, v1, v2, v3, v4, v5, v6, v7, v8]) news) (y : ∀ h' t', Hp g L h' (LV ns_due [some v, v1, v2, v3, v4, v5, v6, v7, v8]) news → Q () ⟨h', gs, dr, t', os⟩) : WP w A (storeName (env_due L) (Str.ofString "head") v) Q ⟨h, gs, dr, t, os⟩ := stX_of ok_due H 0 rfl y
theorem ld_due_1 {Q : Value → Shared → Prop} (H : Hp g L h (LV ns_due (v0 :: some v :: r)) news) (y : Q v ⟨h, gs, dr, t, os⟩) : WP w A (eval (.Name (Str.ofString "size") pos) (env_due L)) Q ⟨h, gs, dr, t, os⟩ := ldX_of ok_due H 1 rfl rfl y
theorem st_due_1 {Q : Unit → Shared → Prop} (H : Hp g L h (LV ns_due [v0, v1, v2, v3, v4, v5, v6, v7, v8]) news) (y : ∀ h' t', Hp g L h' (LV ns_due [v0, some v, v2, v3, v4, v5, v6, v7, v8]) news → Q () ⟨h', gs, dr, t', os⟩) : WP w A (storeName (env_due L) (Str.ofString "size") v) Q ⟨h, gs, dr, t, os⟩ := stX_of ok_due H 1 rfl y
theorem ld_due_2 {Q : Value → Shared → Prop} (H : Hp g L h (LV ns_due (v0 :: v1 :: some v :: r)) news) (y : Q v ⟨h, gs, dr, t, os⟩) : WP w A (eval (.Name (Str.ofString "gone") pos) (env_due L)) Q ⟨h, gs, dr, t, os⟩ := ldX_of ok_due H 2 rfl rfl y
theorem st_due_2 {Q : Unit → Shared → Prop} (H : Hp g L h (LV ns_due [v0, v1, v2, v3, v4, v5, v6, v7, v8]) news) (y : ∀ h' t', Hp g L h' (LV ns_due [v0, v1, some v, v3, v4, v5, v6, v7, v8]) news → Q () ⟨h', gs, dr, t', os⟩) : WP w A (storeName (env_due L) (Str.ofString "gone") v) Q ⟨h, gs, dr, t, os⟩ := stX_of ok_due H 2 rfl y
theorem ld_due_3 {Q : Value → Shared → Prop} (H : Hp g L h (LV ns_due (v0 :: v1 :: v2 :: some v :: r)) news) (y : Q v ⟨h, gs, dr, t, os⟩) : WP w A (eval (.Name (Str.ofString "mark") pos) (env_due L)) Q ⟨h, gs, dr, t, os⟩ := ldX_of ok_due H 3 rfl rfl y
theorem st_due_3 {Q : Unit → Shared → Prop} (H : Hp g L h (LV ns_due [v0, v1, v2, v3, v4, v5, v6, v7, v8]) news) (y : ∀ h' t', Hp g L h' (LV ns_due [v0, v1, v2, some v, v4, v5, v6, v7, v8]) news → Q () ⟨h', gs, dr, t', os⟩) : WP w A (storeName (env_due L) (Str.ofString "mark") v) Q ⟨h, gs, dr, t, os⟩ := stX_of ok_due H 3 rfl y
theorem ld_due_4 {Q : Value → Shared → Prop} (H : Hp g L h (LV ns_due (v0 :: v1 :: v2 :: v3 :: some v :: r)) news) (y : Q v ⟨h, gs, dr, t, os⟩) : WP w A (eval (.Name (Str.ofString "place") pos) (env_due L)) Q ⟨h, gs, dr, t, os⟩ := ldX_of ok_due H 4 rfl rfl y
theorem st_due_4 {Q : Unit → Shared → Prop} (H : Hp g L h (LV ns_due [v0, v1, v2, v3, v4, v5, v6, v7, v8]) news) (y : ∀ h' t', Hp g L h' (LV ns_due [v0, v1, v2, v3, some v, v5, v6, v7, v8]) news → Q () ⟨h', gs, dr, t', os⟩) : WP w A (storeName (env_due L) (Str.ofString "place") v) Q ⟨h, gs, dr, t, os⟩ := stX_of ok_due H 4 rfl y
theorem ld_due_5 {Q : Value → Shared → Prop} (H : Hp g L h (LV ns_due (v0 :: v1 :: v2 :: v3 :: v4 :: some v :: r)) news) (y : Q v ⟨h, gs, dr, t, os⟩) : WP w A (eval (.Name (Str.ofString "low") pos) (env_due L)) Q ⟨h, gs, dr, t, os⟩ := ldX_of ok_due H 5 rfl rfl y
theorem st_due_5 {Q : Unit → Shared → Prop} (H : Hp g L h (LV ns_due [v0, v1, v2, v3, v4, v5, v6, v7, v8]) news) (y : ∀ h' t', Hp g L h' (LV ns_due [v0, v1, v2, v3, v4, some v, v6, v7, v8]) news → Q () ⟨h', gs, dr, t', os⟩) : WP w A (storeName (env_due L) (Str.ofString "low") v) Q ⟨h, gs, dr, t, os⟩ := stX_of ok_due H 5 rfl y
theorem ld_due_6 {Q : Value → Shared → Prop} (H : Hp g L h (LV ns_due (v0 :: v1 :: v2 :: v3 :: v4 :: v5 :: some v :: r)) news) (y : Q v ⟨h, gs, dr, t, os⟩) : WP w A (eval (.Name (Str.ofString "kept") pos) (env_due L)) Q ⟨h, gs, dr, t, os⟩ := ldX_of ok_due H 6 rfl rfl y
theorem st_due_6 {Q : Unit → Shared → Prop} (H : Hp g L h (LV ns_due [v0, v1, v2, v3, v4, v5, v6, v7, v8]) news) (y : ∀ h' t', Hp g L h' (LV ns_due [v0, v1, v2, v3, v4, v5, some v, v7, v8]) news → Q () ⟨h', gs, dr, t', os⟩) : WP w A (storeName (env_due L) (Str.ofString "kept") v) Q ⟨h, gs, dr, t, os⟩ := stX_of ok_due H 6 rfl y
theorem ld_due_7 {Q : Value → Shared → Prop} (H : Hp g L h (LV ns_due (v0 :: v1 :: v2 :: v3 :: v4 :: v5 :: v6 :: some v :: r)) news) (y : Q v ⟨h, gs, dr, t, os⟩) : WP w A (eval (.Name (Str.ofString "stop") pos) (env_due L)) Q ⟨h, gs, dr, t, os⟩ := ldX_of ok_due H 7 rfl rfl y
theorem st_due_7 {Q : Unit → Shared → Prop} (H : Hp g L h (LV ns_due [v0, v1, v2, v3, v4, v5, v6, v7, v8]) news) (y : ∀ h' t', Hp g L h' (LV ns_due [v0, v1, v2, v3, v4, v5, v6, some v, v8]) news → Q () ⟨h', gs, dr, t', os⟩) : WP w A (storeName (env_due L) (Str.ofString "stop") v) Q ⟨h, gs, dr, t, os⟩ := stX_of ok_due H 7 rfl y
theorem ld_due_8 {Q : Value → Shared → Prop} (H : Hp g L h (LV ns_due (v0 :: v1 :: v2 :: v3 :: v4 :: v5 :: v6 :: v7 :: some v :: r)) news) (y : Q v ⟨h, gs, dr, t, os⟩) : WP w A (eval (.Name (Str.ofString "codes") pos) (env_due L)) Q ⟨h, gs, dr, t, os⟩ := ldX_of ok_due H 8 rfl rfl y
theorem st_due_8 {Q : Unit → Shared → Prop} (H : Hp g L h (LV ns_due [v0, v1, v2, v3, v4, v5, v6, v7, v8]) news) (y : ∀ h' t', Hp g L h' (LV ns_due [v0, v1, v2, v3, v4, v5, v6, v7, some v]) news → Q () ⟨h', gs, dr, t', os⟩) : WP w A (storeName (env_due L) (Str.ofString "codes") v) Q ⟨h, gs, dr, t, os⟩ := stX_of ok_due H 8 rfl y
theorem gl_due_len {Q : Value → Shared → Prop} (B : Bs w g) (H : Hp g L h m news) (y : Q (.builtin "len") ⟨h, gs, dr, t, os⟩) : WP w A (eval (.Name (Str.ofString "len") pos) (env_due L)) Q ⟨h, gs, dr, t, os⟩ := gX_blt B H (nmB_len _) bbB_len (by decide) y ok_due.kind (by kernel_rfl!)
theorem gl_due_str {Q : Value → Shared → Prop} (B : Bs w g) (H : Hp g L h m news) (y : Q (.type "str") ⟨h, gs, dr, t, os⟩) : WP w A (eval (.Name (Str.ofString "str") pos) (env_due L)) Q ⟨h, gs, dr, t, os⟩ := gX_blt B H (nmB_str _) bbB_str (by decide) y ok_due.kind (by kernel_rfl!)
theorem gl_due_min {Q : Value → Shared → Prop} (B : Bs w g) (H : Hp g L h m news) (y : Q (.builtin "min") ⟨h, gs, dr, t, os⟩) : WP w A (eval (.Name (Str.ofString "min") pos) (env_due L)) Q ⟨h, gs, dr, t, os⟩ := gX_blt B H (nmB_min _) bbB_min (by decide) y ok_due.kind (by kernel_rfl!)
theorem gl_due_range {Q : Value → Shared → Prop} (B : Bs w g) (H : Hp g L h m news) (y : Q (.type "range") ⟨h, gs, dr, t, os⟩) : WP w A (eval (.Name (Str.ofString "range") pos) (env_due L)) Q ⟨h, gs, dr, t, os⟩ := gX_blt B H (nmB_range _) bbB_range (by decide) y ok_due.kind (by kernel_rfl!)
theorem ldc_due_text {Q : Value → Shared → Prop} {o : Obj} (k : Nat) (H : Hp g L h m news) (e : news[k]? = some (L + 1 + 0, o)) (hd : o.data = .cell (some v)) (y : Q v ⟨h, gs, dr, t, os⟩) : WP w A (eval (.Name (Str.ofString "text") pos) (env_due L)) Q ⟨h, gs, dr, t, os⟩ := ldC_of H k e hd (by rw [cl_due]; kernel_rfl!) ok_due.kind (by kernel_rfl!) (by decide) y
theorem stc_due_text {Q : Unit → Shared → Prop} {o : Obj} {v0 : Option Value} (k : Nat) (H : Hp g L h m news) (e : news[k]? = some (L + 1 + 0, o)) (hd : o.data = .cell v0) (y : ∀ h' o', o'.data = .cell (some v) → Hp g L h' m (news.set k (L + 1 + 0, o')) → Q () ⟨h', gs, dr, t, os⟩) : WP w A (storeName (env_due L) (Str.ofString "text") v) Q ⟨h, gs, dr, t, os⟩ := stC_of H k e hd (by rw [cl_due]; kernel_rfl!) ok_due.kind (by kernel_rfl!) y
theorem ldc_due_tail {Q : Value → Shared → Prop} {o : Obj} (k : Nat) (H : Hp g L h m news) (e : news[k]? = some (L + 1 + 1, o)) (hd : o.data = .cell (some v)) (y : Q v ⟨h, gs, dr, t, os⟩) : WP w A (eval (.Name (Str.ofString "tail") pos) (env_due L)) Q ⟨h, gs, dr, t, os⟩ := ldC_of H k e hd (by rw [cl_due]; kernel_rfl!) ok_due.kind (by kernel_rfl!) (by decide) y
theorem stc_due_tail {Q : Unit → Shared → Prop} {o : Obj} {v0 : Option Value} (k : Nat) (H : Hp g L h m news) (e : news[k]? = some (L + 1 + 1, o)) (hd : o.data = .cell v0) (y : ∀ h' o', o'.data = .cell (some v) → Hp g L h' m (news.set k (L + 1 + 1, o')) → Q () ⟨h', gs, dr, t, os⟩) : WP w A (storeName (env_due L) (Str.ofString "tail") v) Q ⟨h, gs, dr, t, os⟩ := stC_of H k e hd (by rw [cl_due]; kernel_rfl!) ok_due.kind (by kernel_rfl!) y
theorem ldc_due_end {Q : Value → Shared → Prop} {o : Obj} (k : Nat) (H : Hp g L h m news) (e : news[k]? = some (L + 1 + 2, o)) (hd : o.data = .cell (some v)) (y : Q v ⟨h, gs, dr, t, os⟩) : WP w A (eval (.Name (Str.ofString "end") pos) (env_due L)) Q ⟨h, gs, dr, t, os⟩ := ldC_of H k e hd (by rw [cl_due]; kernel_rfl!) ok_due.kind (by kernel_rfl!) (by decide) y
theorem stc_due_end {Q : Unit → Shared → Prop} {o : Obj} {v0 : Option Value} (k : Nat) (H : Hp g L h m news) (e : news[k]? = some (L + 1 + 2, o)) (hd : o.data = .cell v0) (y : ∀ h' o', o'.data = .cell (some v) → Hp g L h' m (news.set k (L + 1 + 2, o')) → Q () ⟨h', gs, dr, t, os⟩) : WP w A (storeName (env_due L) (Str.ofString "end") v) Q ⟨h, gs, dr, t, os⟩ := stC_of H k e hd (by rw [cl_due]; kernel_rfl!) ok_due.kind (by kernel_rfl!) y
end
-- turned
noncomputable def env_turned (L : Addr) : Env := envOfC (Str.ofString "_law_turned") (scoOf (st 11)) L 263 (.ref 262)
noncomputable def ns_turned : List String := ["codes"]
theorem ok_turned : NamesOk ns_turned (scoOf (st 11)) := ⟨by decide, by kernel_rfl!, by kernel_rfl!⟩
theorem cl_turned (n : Nat) : cellsFrom n (scoOf (st 11)).names [] = [(Str.ofString "words", n + 0)] := by kernel_rfl!
section
variable {w : World} {A : Around} {gs : Array GenState} {dr : Drawn} {os : OsState} {g h : Heap} {L : Addr} {t : Nat} {v : Value} {v0 : Option Value} {r : List (Option Value)} {news : List (Addr × Obj)} {pos : Pos} {m : Str → Option Value}
theorem ld_turned_0 {Q : Value → Shared → Prop} (H : Hp g L h (LV ns_turned (some v :: r)) news) (y : Q v ⟨h, gs, dr, t, os⟩) : WP w A (eval (.Name (Str.ofString "codes") pos) (env_turned L)) Q ⟨h, gs, dr, t, os⟩ := ldX_of ok_turned H 0 rfl rfl y
theorem st_turned_0 {Q : Unit → Shared → Prop} (H : Hp g L h (LV ns_turned [v0]) news) (y : ∀ h' t', Hp g L h' (LV ns_turned [some v]) news → Q () ⟨h', gs, dr, t', os⟩) : WP w A (storeName (env_turned L) (Str.ofString "codes") v) Q ⟨h, gs, dr, t, os⟩ := stX_of ok_turned H 0 rfl y
theorem ldc_turned_words {Q : Value → Shared → Prop} {o : Obj} (k : Nat) (H : Hp g L h m news) (e : news[k]? = some (L + 1 + 0, o)) (hd : o.data = .cell (some v)) (y : Q v ⟨h, gs, dr, t, os⟩) : WP w A (eval (.Name (Str.ofString "words") pos) (env_turned L)) Q ⟨h, gs, dr, t, os⟩ := ldC_of H k e hd (by rw [cl_turned]; kernel_rfl!) ok_turned.kind (by kernel_rfl!) (by decide) y
theorem stc_turned_words {Q : Unit → Shared → Prop} {o : Obj} {v0 : Option Value} (k : Nat) (H : Hp g L h m news) (e : news[k]? = some (L + 1 + 0, o)) (hd : o.data = .cell v0) (y : ∀ h' o', o'.data = .cell (some v) → Hp g L h' m (news.set k (L + 1 + 0, o')) → Q () ⟨h', gs, dr, t, os⟩) : WP w A (storeName (env_turned L) (Str.ofString "words") v) Q ⟨h, gs, dr, t, os⟩ := stC_of H k e hd (by rw [cl_turned]; kernel_rfl!) ok_turned.kind (by kernel_rfl!) y
end
theorem lk_258 (P : Params) : (KF P).lookup 258 = some (o258 P) := by kernel_rfl!
theorem cd_258 (P : Params) : codeIn (KF P) (.ref 257) (Str.ofString "_law_due") = true := by kernel_rfl!
theorem lk_263 (P : Params) : (KF P).lookup 263 = some (o263 P) := by kernel_rfl!
theorem cd_263 (P : Params) : codeIn (KF P) (.ref 262) (Str.ofString "_law_turned") = true := by kernel_rfl!
section
variable {w : World} {A : Around} {gs : Array GenState} {dr : Drawn} {os : OsState} {g h h' : Heap} {L C I D : Addr} {t : Nat} {m mC : Str → Option Value} {news : List (Addr × Obj)} {pos : Pos} {env : Env}
theorem Hp.above (H : Hp g L h m news) {a : Addr} {o : Obj} (e : g.get? a = some o) : a ≠ L := Nat.ne_of_lt (Nat.lt_of_lt_of_le (Heap.lt_size e) H.F.above)
theorem Hp.gL (H : Hp g L h m news) : g.get? L = none := by
  cases q : g.get? L with
  | none => rfl
  | some o => exact absurd rfl (H.above q)
-- a frame within a frame
theorem Hp.inner {oL : Obj} (H : Hp g L h m news) (hL : h.get? L = some oL) (hC : h.objs.size ≤ C) (hns : h'.Ns C mC) (k : Ext h h') : Hp g C h' mC ((L, oL) :: news) := by
  have ne : ∀ {a : Addr} {o : Obj}, h.get? a = some o → a ≠ C := fun e => Nat.ne_of_lt (Nat.lt_of_lt_of_le (Heap.lt_size e) hC)
  refine ⟨⟨hns, fun b o e => k _ _ (H.F.keep b o e), Nat.le_trans H.F.above (Nat.le_trans (Nat.le_of_lt H.ltL) hC)⟩, fun p hp => ?_, List.nodup_cons.mpr ⟨fun q => ?_, H.nd⟩⟩
  · rcases List.mem_cons.mp hp with rfl | hp
    · exact ⟨k _ _ hL, ne hL, H.gL⟩
    · exact ⟨k _ _ (H.N p hp).1, ne (H.N p hp).1, (H.N p hp).2.2⟩
  · obtain ⟨p, hp, e⟩ := List.mem_map.mp q
    exact (H.N p hp).2.1 e
-- back out of it
theorem Hp.outer {oL : Obj} {m' : Str → Option Value} (H : Hp g C h mC ((L, oL) :: news)) (hL : ∀ x : Heap, x.get? L = some oL → x.Ns L m) (ha : g.objs.size ≤ L) (s : Heap.SameBut C h h') : Hp g L h' m news := by
  have up : ∀ p ∈ (L, oL) :: news, h'.get? p.1 = some p.2 := fun p hp => (s.2 _ (H.N p hp).2.1).trans (H.N p hp).1
  have nd := List.nodup_cons.mp H.nd
  refine ⟨⟨hL _ (up _ (.head _)), fun b o e => (s.2 _ (H.above e)).trans (H.F.keep b o e), ha⟩, fun p hp => ⟨up _ (.tail _ hp), fun e => nd.1 (List.mem_map.mpr ⟨p, hp, e⟩), (H.N p (.tail _ hp)).2.2⟩, nd.2⟩
noncomputable def SelfIt (w : World) (A : Around) (I : Addr) (oI : Obj) : Prop := ∀ (s : Shared) (R : Value → Shared → Prop), s.heap.get? I = some oI → R (.ref I) s → WP w A (pyIter (.ref I)) R s
theorem self_li {oI : Obj} {l : Addr} {i : Nat} (hI : IsLI oI l i) : SelfIt w A I oI := fun s R e y => wpAny_pyIter_listiter (l := l) (i := i) ⟨oI, e, hI.1, hI.2⟩ y
noncomputable def CompK (w : World) (A : Around) (cenv : Env) (elt target iter : Expr) (ifs : List Expr) (scope : Scope) (pos : Pos) (I D : Addr) (R : Result → Shared → Prop) (s : Shared) : Prop :=
  codeAny (model pw w) A (.compLoop (.ListComp elt [⟨target, iter, ifs, 0⟩] scope pos) 0 (.ref I) (.ref D) cenv) R s
noncomputable def CompR (w : World) (A : Around) (Q : Value → Shared → Prop) (D C : Addr) : Result → Shared → Prop := compPost (model pw w) A (fun _ _ => False) none Q (.ref D) C
-- the state after pyIter of a comprehension's first iterable
noncomputable def CompIn (w : World) (A : Around) (gs : Array GenState) (dr : Drawn) (os : OsState) (g : Heap) (L : Addr) (m : Str → Option Value) (news : List (Addr × Obj)) (go : Addr → Obj → Addr → Addr → Obj → Shared → Prop) (it : Value) (s : Shared) : Prop :=
  ∃ (I : Addr) (oI : Obj) (h : Heap) (t : Nat), it = .ref I ∧ s = ⟨h, gs, dr, t, os⟩ ∧ Hp g L h m ((I, oI) :: news) ∧ SelfIt w A I oI ∧
    ∀ D C h' t' oL, (∀ x : Heap, x.get? L = some oL → x.Ns L m) → Hp g C h' (fun _ => none) ((L, oL) :: (D, lObj #[] 0) :: (I, oI) :: news) → go I oI D C oL ⟨h', gs, dr, t', os⟩
theorem e_comp {elt target iter : Expr} {ifs : List Expr} {scope : Scope} {cl : List (Str × Addr)} {Q : Value → Shared → Prop} {s : Shared}
    (hclos : closureFor scope env = pure cl) (hcell : ∀ y ∈ scope.names, y.2 ≠ .cell) (hkind : scope.kind = .function) (hnames : ∀ y ∈ scope.names, y.2 = .local → scope.names.lookup y.1 = some .local)
    (h : WP w A (eval iter env) (fun xv s₁ => WP w A (pyIter xv) (CompIn w A gs dr os g L m news fun I oI D C oL s' => CompK w A (compEnvC scope cl C env) elt target iter ifs scope pos I D (CompR w A Q D C) s') s₁) s)
    (hs : ∀ x, foldedSetIterable iter env x = pure x := by intro _; with_unfolding_all rfl) : WP w A (eval (.ListComp elt [⟨target, iter, ifs, 0⟩] scope pos) env) Q s := by
  rw [eval_ListComp]
  refine wpAny_comprehension_free (use := none) rfl hs hclos hkind hnames (wpAny_mono h (fun xv s₁ h₁ => wpAny_mono h₁ (fun it s₂ h₂ => ?_) fun _ _ e => e) fun _ _ e => e)
  obtain ⟨I, oI, h, t, rfl, rfl, H, hS, go⟩ := h₂
  have H1 := H.push (lObj #[] 0)
  obtain ⟨oL, es, ep, hL, r⟩ := id H1.F.ns
  refine wpAny_newObj_type (wpAny_newFunctionEnv hcell (by intro y hy; simp at hy) (fun h₁ hns₁ hsb₁ => ?_) hkind)
  dsimp only at hns₁ hsb₁ ⊢
  have k : Ext (h.push (lObj #[] 0)) h₁ := fun b o e => hsb₁.extBut b o (Nat.ne_of_lt (Heap.lt_size e)) (Heap.get?_push_of_some _ e)
  have H2 := H1.inner hL (Nat.le_refl _) hns₁ k
  have K := go h.objs.size _ h₁ (t + ([] : List (Str × Value)).length) oL (fun x e => ⟨oL, es, ep, e, r⟩) H2
  exact codeAny_compStart_list K (wpAny_mono (hS _ _ (H2.at 2 rfl) K) (fun _ _ z => z) fun _ _ e => e.elim)
noncomputable def compTests' (ifs : List Expr) (env : Env) : Sem Bool := forIn ifs true fun c r => if r = true then do let ok ← isTrue c env (eval c env); pure (ForInStep.yield ok) else pure (ForInStep.yield r)
theorem ts_none {Q : Bool → Shared → Prop} {s : Shared} (y : Q true s) : WP w A (compTests' [] env) Q s := wpAny_tests_nil y
theorem ts_one {c : Expr} {Q : Bool → Shared → Prop} {s : Shared} (y : WP w A (isTrue c env (eval c env)) Q s) : WP w A (compTests' [c] env) Q s := wpAny_tests_one y
theorem comp_inv {elt target iter : Expr} {ifs : List Expr} {scope : Scope} {R : Result → Shared → Prop} {s : Shared} (Inv : Nat → Shared → Prop)
    (turn : ∀ n s, Inv n s → WP w A (pyNext (.ref I)) (fun r s₁ => match r with
      | none => R (.ok .next) s₁
      | some v => WP w A (letOwnedTupleGo target (.ref I) v) (fun _ s₁ => WP w A (assign target env v) (fun _ s₂ => WP w A (compTests' ifs env) (fun ok s₃ =>
          if ok = true then WP w A (eval elt env) (fun x s₄ => WP w A (call (.builtin "list.append") [.ref D, x]) (fun _ s₅ => ∃ k, k < n ∧ Inv k s₅) s₄) s₃ else ∃ k, k < n ∧ Inv k s₃) s₂) s₁) s₁) s)
    (n : Nat) (h : Inv n s) : CompK w A env elt target iter ifs scope pos I D R s := by
  refine codeAny_loop rfl Inv (fun n s hI => ?_) n h
  show wpAny _ A ((compTurn (.ListComp elt [⟨target, iter, ifs, 0⟩] scope pos) 0 (.ref I) (.ref D) env).onRaise (fun x => do noteFrame x env; theTreesLotGoes x)) _ _ s
  refine wpAny_noted ?_
  rw [compTurn_list]
  refine wpAny_bind (wpAny_standAt (wpAny_bind (wpAny_mono (turn n s hI) (fun r s₁ h₁ => ?_) fun _ _ e => e.elim)))
  cases r with
  | none => exact wpAny_pure h₁
  | some v =>
    refine wpAny_bind (wpAny_mono h₁ (fun _ s₁ h₁ => ?_) fun _ _ e => e.elim)
    refine wpAny_bind (wpAny_mono h₁ (fun _ s₂ h₂ => wpAny_bind (wpAny_mono h₂ (fun ok s₃ h₃ => ?_) fun _ _ e => e.elim)) fun _ _ e => e.elim)
    cases ok with
    | false => exact wpAny_pure ⟨rfl, h₃⟩
    | true => exact wpAny_bind (wpAny_bind (wpAny_mono h₃ (fun x s₄ h₄ => wpAny_bind (wpAny_mono h₄ (fun _ s₅ h₅ => wpAny_pure (wpAny_pure ⟨rfl, h₅⟩)) fun _ _ e => e.elim)) fun _ _ e => e.elim))
theorem go_name {x : Str} {p : Pos} {it v : Value} {Q : Unit → Shared → Prop} {s : Shared} (y : Q () s) : WP w A (letOwnedTupleGo (.Name x p) it v) Q s := wpAny_pure y
theorem lIsL {items : Array Value} {k : Nat} : IsL (lObj items k) items := ⟨rfl, _, rfl⟩
theorem IsL.list {o : Obj} {items : Array Value} {a : Addr} (x : IsL o items) (e : h.get? a = some o) : h.IsList a items := ⟨o, e, x.1, x.2⟩
theorem c_append {items : Array Value} {v : Value} {oD : Obj} {Q : Value → Shared → Prop} (i : Nat) (H : Hp g L h m news) (e : news[i]? = some (D, oD)) (x : IsL oD items) (hsz : items.size ≤ 1000) (y : ∀ h' o', IsL o' (items.push v) → Hp g L h' m (news.set i (D, o')) → Q .none ⟨h', gs, dr, t, os⟩) :
    WP w A (call (.builtin "list.append") [.ref D, v]) Q ⟨h, gs, dr, t, os⟩ :=
  wpAny_list_append (hsz := by rw [sizeLine_eq]; (first|lia|omega)) (x.list (H.at i e)) fun h' ⟨o', q, r⟩ hs => y h' o' r (H.put i e hs q)
theorem comp_end {oL : Obj} {Q : Value → Shared → Prop} (H : Hp g C h mC ((L, oL) :: news)) (hL : ∀ x : Heap, x.get? L = some oL → x.Ns L m) (ha : g.objs.size ≤ L) (y : ∀ h', Hp g L h' m news → Q (.ref D) ⟨h', gs, dr, t, os⟩) :
    CompR w A Q D C (.ok .next) ⟨h, gs, dr, t, os⟩ :=
  ⟨mC, H.F.ns, fun h' hs => y h' (H.outer (m' := m) hL ha hs)⟩
theorem cx_loc {scope : Scope} {cl : List (Str × Addr)} {x : Str} {v : Value} {Q : Value → Shared → Prop} (H : Hp g C h mC news) (hk : scope.kind = .function) (hx : scope.names.lookup x = some .local) (hd : (x == ("__debug__" : Str)) = false) (hv : mC x = some v) (y : Q v ⟨h, gs, dr, t, os⟩) :
    WP w A (eval (.Name x pos) (compEnvC scope cl C env)) Q ⟨h, gs, dr, t, os⟩ :=
  e_loc H.F rfl (by show (relabel scope env).kind = _; exact hk) (lookup_relabel_local hx) hd hv y
theorem cx_set {scope : Scope} {cl : List (Str × Addr)} {x : Str} {v : Value} {Q : Unit → Shared → Prop} (H : Hp g C h mC news) (hk : scope.kind = .function) (hx : scope.names.lookup x = some .local) (y : ∀ h' t', Hp g C h' (fun y => if y = x then some v else mC y) news → Q () ⟨h', gs, dr, t', os⟩) :
    WP w A (storeName (compEnvC scope cl C env) x v) Q ⟨h, gs, dr, t, os⟩ :=
  s_loc H.F H.N rfl (by show (relabel scope env).kind = _; exact hk) (lookup_relabel_local hx) rfl fun h' t' F N k => y h' t' ⟨F, N, H.nd⟩
theorem cx_cell {scope : Scope} {cl : List (Str × Addr)} {x : Str} {v : Value} {c : Addr} {o : Obj} {Q : Value → Shared → Prop} (i : Nat) (H : Hp g C h mC news) (e : news[i]? = some (c, o)) (hd : o.data = .cell (some v)) (hk : scope.kind = .function) (hx : (relabel scope env).names.lookup x = some .cell) (hc : cl.lookup x = some c) (hb : (x == ("__debug__" : Str)) = false) (y : Q v ⟨h, gs, dr, t, os⟩) :
    WP w A (eval (.Name x pos) (compEnvC scope cl C env)) Q ⟨h, gs, dr, t, os⟩ :=
  wpAny_Name (wpAny_loadName_cell (by show (relabel scope env).kind = _; exact hk) hx hc ⟨o, H.at i e, hd⟩ y) hb
end
-- texts
theorem sl_both {x : Str} {k q : Nat} (h : k + q ≤ x.length) : (Txt.slice x (some (k : Int)) (some ((k : Int) + q))).cps.toList = (x.cps.toList.drop k).take q := by
  have hl : x.cps.toList.length = x.length := Array.length_toList
  have := eq_of_beq (slice_closes (x := x) (i := k) (j := (k : Int) + q) (by (first|lia|omega)))
  rw [this, show ((k : Int) + q - k).toNat = q by (first|lia|omega)]; simp
theorem sl_to {x : Str} {k : Nat} (h : k ≤ x.length) : (Txt.slice x none (some (k : Int))).cps.toList = x.cps.toList.take k := by
  have hl : x.cps.toList.length = x.length := Array.length_toList
  have := eq_of_beq (slice_closes_to (x := x) (j := k) (by (first|lia|omega)))
  rw [this]; simp
theorem sl_from {x : Str} {k : Nat} (h : k ≤ x.length) : (Txt.slice x (some (k : Int)) none).cps.toList = x.cps.toList.drop k := by
  have hl : x.cps.toList.length = x.length := Array.length_toList
  have := eq_of_beq (slice_closes_from (x := x) (i := k) (by (first|lia|omega)))
  rw [this]
  show List.take _ _ = _
  exact List.take_of_length_le (by simp)
noncomputable def hitB (x : Str) (q k : Nat) : Bool := (x.cps.toList.drop k).take q == x.cps.toList.drop (x.length - q)
section
variable {w : World} {A : Around} {gs : Array GenState} {dr : Drawn} {os : OsState} {g h : Heap} {L C I D : Addr} {d u t : Nat} {m mC : Str → Option Value} {news : List (Addr × Obj)} {pos : Pos} {env : Env}
theorem self_ri {a b : Int} : SelfIt w A I (riObj a b) := fun s R e y => wpAny_pyIter_rangeiter (it := I) (x := a) (left := b) (step := 1) e y
theorem e_if {test body orelse : Expr} {Q : Value → Shared → Prop} {s : Shared} (x : WP w A (isTrue test env (eval test env)) (fun b s₂ => if b then WP w A (eval body env) Q s₂ else WP w A (eval orelse env) Q s₂) s) : WP w A (eval (.IfExp test body orelse pos) env) Q s := wpAny_IfExp x
theorem s_add {x y : Str} {tx ty : Tok} {Q : Value → Shared → Prop} (hx : x.length + y.length ≤ 100000) (z : ∀ tv t', Q (.str (x ++ y) tv) ⟨h, gs, dr, t', os⟩) : WP w A (binaryOp .Add (.str x tx) (.str y ty)) Q ⟨h, gs, dr, t, os⟩ :=
  PyProof.Rows.add_str (fun t' tk => z t' tk) (by rw [sizeLine_eq]; (first|lia|omega))
theorem s_ofint {a : Int} {ta : Tok} {Q : Value → Shared → Prop} (ha : a.natAbs.log2 < 1920) (y : ∀ tv t', Q (.str (toString a) tv) ⟨h, gs, dr, t', os⟩) : WP w A (call (.type "str") [.int a ta]) Q ⟨h, gs, dr, t, os⟩ := P.str_of_int ha (y _ _)
theorem c_eqS {x y : Str} {tx ty : Tok} {Q : Value → Shared → Prop} {s : Shared} (z : Q (.bool (x.cps.toList == y.cps.toList)) s) : WP w A (compareOp .Eq (.str x tx) (.str y ty)) Q s := P.eq_str z
theorem k_min {a b : Int} {ta tb : Tok} {Q : Value → Shared → Prop} (hh : A.handled = none) (H : Hp g L h m news) (y : ∀ h' t' tv, Hp g L h' m news → Q (.int (if b < a then b else a) tv) ⟨h', gs, dr, t', os⟩) : WP w A (call (.builtin "min") [.int a ta, .int b tb]) Q ⟨h, gs, dr, t, os⟩ :=
  min_two_ints hh fun h' tk k => by
    have := fun tv => y h' tk tv (H.ext k)
    split
    · rename_i q; simp only [if_pos q] at this; exact this _
    · rename_i q; simp only [if_neg q] at this; exact this _
theorem argBest_zero {bt : Nat → Nat → Bool} : ∀ n, (∀ i, i ≤ n → bt i 0 = false) → argBest bt n = 0
  | 0, _ => rfl
  | n + 1, h => by
    have ih := argBest_zero n fun i hi => h i (Nat.le_succ_of_le hi)
    show (if bt (n + 1) (argBest bt n) then n + 1 else argBest bt n) = 0
    rw [ih, h _ (Nat.le_refl _)]; rfl
-- the least of a list of ints that has its least at its head
theorem k_minL {l : Addr} {ol : Obj} {xs : Array (Int × Tok)} {a : Int} {r : List Int} {Q : Value → Shared → Prop} (i : Nat) (hh : A.handled = none) (H : Hp g L h m news) (e : news[i]? = some (l, ol)) (hl : IsL ol (intItems xs)) (hx : xs.toList.map (·.1) = a :: r) (hr : ∀ b ∈ r, a ≤ b)
    (y : ∀ h' t' tv, Hp g L h' m news → Q (.int a tv) ⟨h', gs, dr, t', os⟩) : WP w A (call (.builtin "min") [.ref l]) Q ⟨h, gs, dr, t, os⟩ := by
  have hs : xs.size = r.length + 1 := by
    have := congrArg List.length hx
    simpa using this
  have n0 : numAt xs 0 = a := by
    have : (xs.toList.map (·.1))[0]? = some a := by rw [hx]; rfl
    rw [List.getElem?_map, Array.getElem?_toList] at this
    unfold numAt; rw [this]; rfl
  have nb : ∀ i, i ≤ xs.size - 1 → a ≤ numAt xs i := by
    intro i hi
    have h1 : (xs.toList.map (·.1))[i]? = some (numAt xs i) := by
      have : i < xs.size := by (first|lia|omega)
      simp [numAt, this]
    rw [hx] at h1
    cases i with
    | zero => simp at h1; (first|lia|omega)
    | succ i => exact hr _ (List.mem_of_getElem? (by simpa using h1))
  refine min_intList hh (hl.list (H.at i e)) (by (first|lia|omega)) fun v h' tk hv k => ?_
  rw [argBest_zero (xs.size - 1) fun i hi => by have := nb i hi; show decide (numAt xs i < numAt xs 0) = false; rw [n0]; exact decide_eq_false (by (first|lia|omega))] at hv
  obtain ⟨tv, rfl⟩ := intItems_at hv
  rw [n0]
  exact y h' tk tv (H.ext k)
end
-- the comprehension of due
noncomputable def ifB (s : Stmt) : List Stmt := match s with | .If _ b _ _ => b | _ => []
noncomputable def rhs (s : Stmt) : Expr := match s with | .Assign _ v _ => v | .Return (some v) _ => v | _ => .Constant .none 0 default
noncomputable def arg0 (e : Expr) : Expr := match e with | .Call _ (a :: _) _ _ => a | _ => e
noncomputable def lcSc (e : Expr) (z : Scope) : Scope := match e with | .ListComp _ _ sc _ => sc | _ => z
noncomputable def lcElt (e : Expr) : Expr := match e with | .ListComp x _ _ _ => x | _ => e
noncomputable def lcGen (e : Expr) : Comprehension := match e with | .ListComp _ (c :: _) _ _ => c | _ => ⟨e, e, [], 0⟩
noncomputable def lcPos (e : Expr) : Pos := match e with | .ListComp _ _ _ p => p | _ => default
noncomputable def dueC : Expr := arg0 (rhs (nthS (ifB (nthS (bodyOf (st 10)) 6)) 1))
noncomputable def dueSc : Scope := lcSc dueC (scoOf (st 10))
noncomputable def dueCl (L : Addr) : List (Str × Addr) := [(Str.ofString "text", L + 1 + 0), (Str.ofString "tail", L + 1 + 1), (Str.ofString "end", L + 1 + 2)]
theorem clos_due (L : Addr) : closureFor dueSc (env_due L) = pure (dueCl L) := by kernel_rfl!
theorem ce_due : ∀ y ∈ dueSc.names, y.2 ≠ .cell := by
  intro y hy; have : (dueSc.names.all fun y => y.2 != .cell) = true := by kernel_rfl!
  simpa using List.all_eq_true.mp this y hy
theorem nm_due : ∀ y ∈ dueSc.names, y.2 = .local → dueSc.names.lookup y.1 = some .local := by
  intro y hy e; have : (dueSc.names.all fun y => y.2 != .local || (match dueSc.names.lookup y.1 with | some .local => true | _ => false)) = true := by kernel_rfl!
  have := List.all_eq_true.mp this y hy
  rw [e] at this
  revert this
  split
  · rename_i q; intro _; exact q
  · intro z; cases z
theorem kd_due : dueSc.kind = .function := by kernel_rfl!
noncomputable def cenv_due (L C : Addr) : Env := compEnvC dueSc (dueCl L) C (env_due L)
section
variable {w : World} {A : Around} {gs : Array GenState} {dr : Drawn} {os : OsState} {g h : Heap} {L C I D : Addr} {d u t : Nat} {m mC : Str → Option Value} {news : List (Addr × Obj)} {pos : Pos} {env : Env}
theorem dc_k {Q : Value → Shared → Prop} {v : Value} (H : Hp g C h mC news) (hv : mC (Str.ofString "k") = some v) (y : Q v ⟨h, gs, dr, t, os⟩) : WP w A (eval (.Name (Str.ofString "k") pos) (cenv_due L C)) Q ⟨h, gs, dr, t, os⟩ := cx_loc H kd_due (by kernel_rfl!) (by decide) hv y
theorem dc_text {Q : Value → Shared → Prop} {v : Value} {o : Obj} (i : Nat) (H : Hp g C h mC news) (e : news[i]? = some (L + 1 + 0, o)) (hd : o.data = .cell (some v)) (y : Q v ⟨h, gs, dr, t, os⟩) : WP w A (eval (.Name (Str.ofString "text") pos) (cenv_due L C)) Q ⟨h, gs, dr, t, os⟩ :=
  cx_cell i H e hd kd_due (by kernel_rfl!) (by kernel_rfl!) (by decide) y
theorem dc_tail {Q : Value → Shared → Prop} {v : Value} {o : Obj} (i : Nat) (H : Hp g C h mC news) (e : news[i]? = some (L + 1 + 1, o)) (hd : o.data = .cell (some v)) (y : Q v ⟨h, gs, dr, t, os⟩) : WP w A (eval (.Name (Str.ofString "tail") pos) (cenv_due L C)) Q ⟨h, gs, dr, t, os⟩ :=
  cx_cell i H e hd kd_due (by kernel_rfl!) (by kernel_rfl!) (by decide) y
theorem dc_end {Q : Value → Shared → Prop} {v : Value} {o : Obj} (i : Nat) (H : Hp g C h mC news) (e : news[i]? = some (L + 1 + 2, o)) (hd : o.data = .cell (some v)) (y : Q v ⟨h, gs, dr, t, os⟩) : WP w A (eval (.Name (Str.ofString "end") pos) (cenv_due L C)) Q ⟨h, gs, dr, t, os⟩ :=
  cx_cell i H e hd kd_due (by kernel_rfl!) (by kernel_rfl!) (by decide) y
end
noncomputable def DI (gs : Array GenState) (dr : Drawn) (os : OsState) (g : Heap) (L C D I : Addr) (oL : Obj) (cells : List (Addr × Obj)) (x : Str) (q low hi : Nat) (n : Nat) (s : Shared) : Prop :=
  ∃ (h : Heap) (t j : Nat) (xs : Array (Int × Tok)) (oD : Obj) (mC : Str → Option Value), s = ⟨h, gs, dr, t, os⟩ ∧ n = hi - j ∧ low ≤ j ∧ j ≤ hi ∧ Hp g C h mC ((L, oL) :: (D, oD) :: (I, riObj (j : Int) ((hi - j : Nat) : Int)) :: cells) ∧ IsL oD (intItems xs) ∧
    xs.toList.map (·.1) = ((List.range' low (j - low)).filter (hitB x q)).map Int.ofNat
section
variable {w : World} {A : Around} {gs : Array GenState} {dr : Drawn} {os : OsState} {g h : Heap} {L C I D : Addr} {d u t : Nat} {m mC : Str → Option Value} {news : List (Addr × Obj)} {pos : Pos} {env : Env}
set_option maxHeartbeats 1000000 in
theorem due_loop {x e : Str} {q low hi : Nat} {tx tt te : Tok} {oe ot ox oL : Obj} {R : Result → Shared → Prop} {s : Shared} (hA : AOk A d u) (hx : x.length ≤ 1000) (he : e.cps.toList = x.cps.toList.drop (x.length - q)) (hq : q ≤ x.length) (hhi : hi = x.length - q + 1)
    (de : oe.data = .cell (some (.str e te))) (dt : ot.data = .cell (some (.int (q : Nat) tt))) (dx : ox.data = .cell (some (.str x tx)))
    (I0 : DI gs dr os g L C D I oL [(L + 1 + 2, oe), (L + 1 + 1, ot), (L + 1 + 0, ox)] x q low hi (hi - low) s)
    (y : ∀ (h : Heap) (t : Nat) (xs : Array (Int × Tok)) (oD : Obj) (mC : Str → Option Value), Hp g C h mC ((L, oL) :: (D, oD) :: [(L + 1 + 2, oe), (L + 1 + 1, ot), (L + 1 + 0, ox)]) → IsL oD (intItems xs) →
      xs.toList.map (·.1) = ((List.range' low (hi - low)).filter (hitB x q)).map Int.ofNat → R (.ok .next) ⟨h, gs, dr, t, os⟩) :
    CompK w A (cenv_due L C) (lcElt dueC) (lcGen dueC).target (lcGen dueC).iter (lcGen dueC).ifs dueSc (lcPos dueC) I D R s := by
  refine comp_inv (DI gs dr os g L C D I oL _ x q low hi) (fun n s hI => ?_) _ I0
  obtain ⟨h, t, j, xs, oD, mC, rfl, rfl, h1, h2, H, hD, hxs⟩ := hI
  by_cases hlt : j < hi
  · refine nx_range 2 H rfl (by (first|lia|omega)) fun h3 t3 tv H3 => ?_
    dsimp only [List.set] at H3 ⊢
    refine go_name ?_
    refine a_name ?_
    refine cx_set H3 kd_due (by kernel_rfl!) fun h4 t4 H4 => ?_
    refine ts_one ?_
    refine t_cmp ?_
    change WP w A (eval _ (cenv_due L C)) _ _
    refine e_slice_str ?_
    refine dc_text 5 H4 rfl dx ?_
    refine p_some ?_
    refine dc_k H4 (if_pos rfl) ?_
    refine p_some ?_
    refine e_bin ?_
    refine dc_k H4 (if_pos rfl) ?_
    refine dc_tail 4 H4 rfl dt ?_
    refine o_add fun tv2 t5 => ?_
    refine o_slice_both (by (first|lia|omega)) H4 fun h5 tv3 t6 H5 => ?_
    refine dc_end 3 H5 rfl de ?_
    refine c_eqS ?_
    refine t_bool ?_
    rw [sl_both (by (first|lia|omega)), he]
    have hcast : ((j : Int) + 1) = ((j + 1 : Nat) : Int) := by (first|lia|omega)
    have hcast2 : (((hi - j : Nat) : Int) - 1) = ((hi - (j + 1) : Nat) : Int) := by (first|lia|omega)
    rw [hcast, hcast2] at H5
    have hr : List.range' low (j + 1 - low) = List.range' low (j - low) ++ [j] := by
      rw [show j + 1 - low = (j - low) + 1 by (first|lia|omega), List.range'_concat]
      congr 2; (first|lia|omega)
    show if hitB x q j = true then _ else _
    by_cases hh : hitB x q j = true
    · rw [if_pos hh]
      refine dc_k H5 (if_pos rfl) ?_
      have hsz : xs.size ≤ 1000 := by
        have e1 := congrArg List.length hxs
        have e2 := List.length_filter_le (hitB x q) (List.range' low (j - low))
        simp at e1 e2
        (first|lia|omega)
      refine c_append 1 H5 rfl hD (by simp [intItems]; exact hsz) fun h6 oD' hD' H6 => ?_
      refine ⟨hi - (j + 1), by (first|lia|omega), h6, _, j + 1, xs.push ((j : Int), tv), oD', _, rfl, rfl, by (first|lia|omega), by (first|lia|omega), H6, ?_, ?_⟩
      · have : intItems (xs.push ((j : Int), tv)) = (intItems xs).push (.int j tv) := by simp [intItems]
        rw [this]; exact hD'
      · rw [hr, List.filter_append, List.map_append, ← hxs]
        simp [hh]
    · rw [if_neg hh]
      refine ⟨hi - (j + 1), by (first|lia|omega), h5, _, j + 1, xs, oD, _, rfl, rfl, by (first|lia|omega), by (first|lia|omega), H5, hD, ?_⟩
      rw [hr, List.filter_append, List.map_append, ← hxs]
      simp [hh]
  · have : j = hi := by (first|lia|omega)
    subst this
    refine nx_range_end 2 hA.hh H rfl (by (first|lia|omega)) fun h3 H3 => ?_
    dsimp only [List.eraseIdx] at H3 ⊢
    exact y h3 _ xs oD mC H3 hD hxs
end
noncomputable def lowOf (p q : Nat) : Nat := if q ≤ p then p else 0
noncomputable def hitsOf (x : Str) (p q : Nat) : List Nat := (List.range' (lowOf p q) (x.length - q + 1 - lowOf p q)).filter (hitB x q)
noncomputable def placeOf (x : Str) (p q : Nat) : Nat := if q = 0 then x.length else (hitsOf x p q).headD 0
noncomputable def dueCodes (n p q pl ml : Nat) : List Oc :=
  (((if 0 < min p pl then [("equal", 0, min p pl, 0, min p pl)] else []) ++ [((if min p pl < pl then "replace" else "insert"), min p pl, pl, min p pl, p + ml)]) ++ (if 0 < q then [("equal", pl, pl + q, p + ml, p + ml + q)] else [])) ++
    (if pl + q < n then [("delete", pl + q, n, p + ml + q, p + ml + q)] else [])
noncomputable def markS (gone : Int) : Str := (Str.ofString "[" ++ Str.ofString (toString gone)) ++ Str.ofString " chars]"
section
variable {w : World} {A : Around} {gs : Array GenState} {dr : Drawn} {os : OsState} {g h h' : Heap} {L C I D : Addr} {d u t : Nat} {m mC : Str → Option Value} {news nw more : List (Addr × Obj)} {pos : Pos} {env : Env}
theorem Hp.nw0 (H : Hp h L h' m (nw ++ more)) : Nw h h' nw :=
  ⟨fun p hp => (H.N p (List.mem_append_left _ hp)).1, fun p hp => (H.N p (List.mem_append_left _ hp)).2.2, by have := H.nd; rw [List.map_append] at this; exact (List.nodup_append.mp this).1⟩
theorem c_le {a b : Int} {ta tb : Tok} {Q : Value → Shared → Prop} {s : Shared} (x : Q (.bool (decide (a ≤ b))) s) : WP w A (compareOp .LtE (.int a ta) (.int b tb)) Q s := PySem.P.le_int x
theorem bind_due {L : Addr} {a b c : Value} : bindL (env_due L).kindOf [(Str.ofString "text", a), (Str.ofString "head", b), (Str.ofString "tail", c)] (fun _ => none) = LV ns_due [some b, none, none, none, none, none, none, none, none] := by
  have k1 : (env_due L).kindOf (Str.ofString "text") = some .cell := by kernel_rfl!
  have k2 : (env_due L).kindOf (Str.ofString "head") = some .local := by kernel_rfl!
  have k3 : (env_due L).kindOf (Str.ofString "tail") = some .cell := by kernel_rfl!
  funext y
  simp only [bindL, k1, k2, k3, reduceCtorEq, if_false, if_true, Option.some.injEq]
  simp only [ns_due, LV]
  split
  · rfl
  · repeat (first | rfl | (split; rfl))
theorem bindC_due {L : Addr} {a b c : Value} : (bindC (env_due L).kindOf [(Str.ofString "text", a), (Str.ofString "head", b), (Str.ofString "tail", c)] (fun _ => none)) (Str.ofString "text") = some a ∧
    (bindC (env_due L).kindOf [(Str.ofString "text", a), (Str.ofString "head", b), (Str.ofString "tail", c)] (fun _ => none)) (Str.ofString "tail") = some c ∧
    (bindC (env_due L).kindOf [(Str.ofString "text", a), (Str.ofString "head", b), (Str.ofString "tail", c)] (fun _ => none)) (Str.ofString "end") = none := by
  have k1 : (env_due L).kindOf (Str.ofString "text") = some .cell := by kernel_rfl!
  have k2 : (env_due L).kindOf (Str.ofString "head") = some .local := by kernel_rfl!
  have k3 : (env_due L).kindOf (Str.ofString "tail") = some .cell := by kernel_rfl!
  simp only [bindC, k1, k2, k3, reduceCtorEq, if_false, if_true, Option.some.injEq, sinj]
  simp
theorem Hp.nwAll (H : Hp h L h' m nw) : Nw h h' nw := ⟨fun p hp => (H.N p hp).1, fun p hp => (H.N p hp).2.2, H.nd⟩
theorem e_compH {elt target iter : Expr} {ifs : List Expr} {scope : Scope} {cl : List (Str × Addr)} {Q : Value → Shared → Prop} (H : Hp g L h m news)
    (hclos : closureFor scope env = pure cl) (hcell : ∀ y ∈ scope.names, y.2 ≠ .cell) (hkind : scope.kind = .function) (hnames : ∀ y ∈ scope.names, y.2 = .local → scope.names.lookup y.1 = some .local)
    (y : WP w A (eval iter env) (fun xv s₁ => WP w A (pyIter xv) (CompIn w A gs dr os g L m news fun I oI D C oL s' => CompK w A (compEnvC scope cl C env) elt target iter ifs scope pos I D (CompR w A Q D C) s') s₁) ⟨h, gs, dr, t, os⟩)
    (hs : ∀ x, foldedSetIterable iter env x = pure x := by intro _; with_unfolding_all rfl) : WP w A (eval (.ListComp elt [⟨target, iter, ifs, 0⟩] scope pos) env) Q ⟨h, gs, dr, t, os⟩ := e_comp hclos hcell hkind hnames y hs
theorem isl0 : IsL (lObj #[] 0) (intItems #[]) := by
  have : intItems #[] = #[] := by simp [intItems]
  rw [this]; exact lIsL
-- the call of _law_due: its frame
theorem due_enter {a b c : Value} {Q : Value → Shared → Prop} (B : Bs w h) (hA : AOk A d u) (hd : d < recursionLimit)
    (y : ∀ h' t' oe ot ox, Hp h h.objs.size h' (LV ns_due [some b, none, none, none, none, none, none, none, none]) [(h.objs.size + 1 + 2, oe), (h.objs.size + 1 + 1, ot), (h.objs.size + 1 + 0, ox)] → oe.data = .cell none → ot.data = .cell (some c) → ox.data = .cell (some a) → Ext h h' →
      WP w (A.deeper (env_due h.objs.size)) (execs (bodyOf (st 10)) (env_due h.objs.size)) (Ret Q) ⟨h', gs, dr, t', os⟩) :
    WP w A (call (.ref 258) [a, b, c]) Q ⟨h, gs, dr, t, os⟩ := by
  refine enterX (binds := [(Str.ofString "text", a), (Str.ofString "head", b), (Str.ofString "tail", c)]) B hA hd ok_due.kind (lk_258 _) (cd_258 _) (.of_eq (by kernel_rfl!)) ?_ ?_ (by kernel_rfl!) (by kernel_rfl!) ?_
  · intro n x hx
    simp only [List.mem_cons, List.not_mem_nil, or_false] at hx
    rcases hx with rfl | rfl | rfl
    · exact .inr ⟨by kernel_rfl!, by kernel_rfl!⟩
    · exact .inl (by kernel_rfl!)
    · exact .inr ⟨by kernel_rfl!, by kernel_rfl!⟩
  · have := cl_due 0
    rw [this]; simp [sinj]
  · intro h' t' cells F N CA k
    change CellsAre (bindC (env_due _).kindOf _ _) (cellsFrom (h.objs.size + 1) (scoOf (st 10)).names []) cells at CA
    rw [cl_due] at CA
    obtain ⟨oe, ot, ox, rfl, e1, e2, e3⟩ := CA.three
    rw [bindC_due.2.2] at e1
    rw [bindC_due.2.1] at e2
    rw [bindC_due.1] at e3
    change Fr h h.objs.size h' (bindL (env_due _).kindOf _ _) at F
    rw [bind_due] at F
    refine y h' t' oe ot ox ⟨F, N, ?_⟩ e1 e2 e3 k
    simp
end
section
variable {w : World} {A : Around} {gs : Array GenState} {dr : Drawn} {os : OsState} {g h h' : Heap} {L C I D : Addr} {d u t : Nat} {m mC : Str → Option Value} {news nw more : List (Addr × Obj)} {pos : Pos} {env : Env}
noncomputable abbrev DueQ (gs : Array GenState) (dr : Drawn) (os : OsState) (h : Heap) (x : Str) (tk : Tok) (p q : Nat) (Q : Value → Shared → Prop) : Prop :=
  ∀ (h' : Heap) (t' : Nat) (T CL : Addr) (S : Str) (ts : Tok) (vs : List Value) (k : Nat) (rest : List (Addr × Obj)) (codes : List Oc), Ext h h' → Nw h h' ((T, tObj [.str S ts, .ref CL]) :: (CL, lObj vs.toArray k) :: rest) → Ops rest vs codes →
   ((x.length - p - q ≤ 12 ∧ S = x ∧ codes = [("equal", 0, x.length, 0, x.length)]) ∨
     (12 < x.length - p - q ∧ S = (Txt.slice x none (some (p : Int)) ++ markS ((x.length : Int) - p - q)) ++ Txt.slice x (some ((x.length : Int) - q)) none ∧ codes = dueCodes x.length p q (placeOf x p q) (markS ((x.length : Int) - p - q)).length)) →
   Q (.ref T) ⟨h', gs, dr, t', os⟩
theorem low_le (p q : Nat) : lowOf p q ≤ p := by unfold lowOf; split <;> (first|lia|omega)
theorem hits_cons {x : Str} {p q : Nat} (h1 : p + q ≤ x.length) (hq : 0 < q) : ∃ r, hitsOf x p q = placeOf x p q :: r ∧ (∀ b ∈ r, placeOf x p q ≤ b) ∧ placeOf x p q ≤ x.length - q ∧ lowOf p q ≤ placeOf x p q ∧ hitB x q (placeOf x p q) = true := by
  have hl := low_le p q
  have hm : (x.length - q) ∈ hitsOf x p q := by
    unfold hitsOf
    rw [List.mem_filter, List.mem_range'_1]
    refine ⟨by (first|lia|omega), ?_⟩
    unfold hitB
    have hxl : x.cps.toList.length = x.length := Array.length_toList
    rw [List.take_of_length_le (by rw [List.length_drop]; (first|lia|omega))]
    simp
  have hpw : (hitsOf x p q).Pairwise (· < ·) := List.Pairwise.filter _ (List.pairwise_lt_range' ..)
  have hpl : placeOf x p q = (hitsOf x p q).headD 0 := by unfold placeOf; rw [if_neg (by (first|lia|omega))]
  rw [hpl]
  cases e : hitsOf x p q with
  | nil => rw [e] at hm; cases hm
  | cons a r =>
    rw [e] at hpw
    have ha : a ∈ hitsOf x p q := by rw [e]; exact .head _
    unfold hitsOf at ha
    rw [List.mem_filter, List.mem_range'_1] at ha
    exact ⟨r, rfl, fun b hb => Nat.le_of_lt ((List.pairwise_cons.mp hpw).1 b hb), by show a ≤ _; (first|lia|omega), by show _ ≤ a; (first|lia|omega), ha.2⟩
set_option maxHeartbeats 4000000 in
theorem due_ok {x : Str} {p q : Nat} {tk tp tq : Tok} {Q : Value → Shared → Prop} (B : Bs w h) (hA : AOk A d u) (hd : d < recursionLimit) (hx : 22 ≤ x.length) (hx2 : x.length ≤ 1000) (hp : p ≤ 8) (hq : q ≤ 8) (y : DueQ gs dr os h x tk p q Q) :
    WP w A (call (.ref 258) [.str x tk, .int (p : Nat) tp, .int (q : Nat) tq]) Q ⟨h, gs, dr, t, os⟩ := by
  refine due_enter B hA hd fun h1 t1 oe ot ox H de dt dx k1 => ?_
  have hA1 := hA.deeper (env_due h.objs.size)
  revert hA1
  generalize A.deeper _ = A1
  intro hA1
  refine r_cons ?_
  repeat (first|(with_reducible first|refine gl_due_len ‹_› ‹_› ?_|refine ldc_due_text 2 ‹_› (by with_unfolding_all rfl) ‹_› ?_|refine e_call ?_|refine sp_cons ?_|refine sp_nil ?_|refine r_assign ?_|refine keep_b ?_|refine call_rule ?_)|(with_reducible refine o_len_str (by (first|lia|omega)) ?_; intro _ _))
  (with_reducible refine st_due_1 ‹_› ?_); intro h2 t2 H2
  repeat (first|(with_reducible first|refine ld_due_0 ‹_› ?_|refine ld_due_1 ‹_› ?_|refine ldc_due_tail 1 ‹_› (by with_unfolding_all rfl) ‹_› ?_|refine e_bin ?_)|(with_reducible refine o_sub ?_; intro _ _)|(with_reducible first|refine r_assign ?_|refine r_cons ?_))
  (with_reducible refine st_due_2 ‹_› ?_); intro h3 t3 H3
  repeat (first|(with_reducible first|refine ld_due_2 ‹_› ?_|refine t_cmp ?_|refine t_bool ?_)|(with_reducible refine e_int ?_; intro _ _)|(with_reducible first|refine r_if ?_|refine r_cons ?_|refine c_le ?_))
  by_cases hc : ((x.length : Nat) : Int) - p - q ≤ 12
  · rw [if_pos (decide_eq_true hc)]
    repeat (first|(with_reducible first|refine ld_due_1 ‹_› ?_|refine ldc_due_text 2 ‹_› (by with_unfolding_all rfl) ‹_› ?_|refine sp_cons ?_|refine sp_nil ?_)|(with_reducible refine e_int ?_; intro _ _)|(with_reducible refine e_str ?_; intro _ _)|(with_reducible first|refine r_ret ?_|refine r_cons ?_|refine e_tuple ‹_› ?_)|(with_reducible refine n_tuple ‹_› ?_; intro _ _ _ _ _ _)|with_reducible refine e_list ?_|(with_reducible refine n_list ‹_› ?_; intro _ _ _ _))
    rename_i H5 _ _ _
    exact y _ _ _ _ x tk _ 0 _ [("equal", 0, x.length, 0, x.length)] H5.F.keep H5.nwAll (.cons (o := ("equal", 0, x.length, 0, x.length)) (.head _) .nil) (.inl ⟨by (first|lia|omega), rfl, rfl⟩)
  rw [if_neg (by simpa using hc)]
  refine r_nil ?_
  have hn : (toString ((x.length : Int) - p - q) : String).length ≤ 4 := by
    have := toString_length_le (v := (x.length : Int) - p - q) (by (first|lia|omega)) (k := 4) (by decide) (by (first|lia|omega))
    rwa [PySem.ofString_length] at this
  have hml : (markS ((x.length : Int) - p - q)).length ≤ 20 := by
    unfold markS
    rw [strLen_append, strLen_append, PySem.ofString_length, PySem.ofString_length, PySem.ofString_length]
    have e1 : ("[" : String).length = 1 := by decide
    have e2 : (" chars]" : String).length = 7 := by decide
    (first|lia|omega)
  have hxl : x.cps.toList.length = x.length := Array.length_toList
  have cast1 : ((x.length : Int) - q) = ((x.length - q : Nat) : Int) := by (first|lia|omega)
  -- from the seventh statement on
  have st7 : ∀ (h6 : Heap) (t6 pl : Nat) (tsz tgn tmk tpl te : Tok) (v5 : Option Value) (oe' : Obj), pl = placeOf x p q → pl ≤ x.length → oe'.data = .cell (some (.str (Txt.slice x (some ((x.length : Int) - q)) none) te)) →
      Hp h h.objs.size h6 (LV ns_due [some (.int (p : Nat) tp), some (.int (x.length : Nat) tsz), some (.int ((x.length : Int) - p - q) tgn), some (.str (markS ((x.length : Int) - p - q)) tmk), some (.int (pl : Nat) tpl), v5, none, none, none]) [(h.objs.size + 1 + 2, oe'), (h.objs.size + 1 + 1, ot), (h.objs.size + 1 + 0, ox)] →
      WP w A1 (execs ((bodyOf (st 10)).drop 7) (env_due h.objs.size)) (Ret Q) ⟨h6, gs, dr, t6, os⟩ := by
    intro h6 t6 pl tsz tgn tmk tpl te v5 oe' hpl hpl2 de' H6
    generalize hML : (markS ((x.length : Int) - p - q)).length = ML at *
    generalize hMK : markS ((x.length : Int) - p - q) = MK at *
    generalize hEN : Txt.slice x (some ((x.length : Int) - q)) none = EN at *
    have hENl : EN.length ≤ 1000 := by rw [← hEN]; exact Nat.le_trans (Txt.slice_le x _ _) hx2
    refine r_cons ?_
    repeat (with_reducible first|refine ld_due_0 ‹_› ?_|refine ld_due_4 ‹_› ?_|refine gl_due_min ‹_› ‹_› ?_|refine e_call ?_|refine sp_cons ?_|refine sp_nil ?_|refine r_assign ?_|refine keep_b ?_|refine call_rule ?_)
    refine k_min hA1.hh H6 fun h7 t7 tkp H7 => ?_
    rw [show (if (pl : Int) < (p : Nat) then (pl : Int) else (p : Nat)) = ((min p pl : Nat) : Int) by split <;> (first|lia|omega)]
    generalize hkp : min p pl = kp
    (with_reducible refine st_due_6 ‹_› ?_); intro h8 t8 H8
    repeat (first|(with_reducible first|refine ld_due_0 ‹_› ?_|refine ld_due_3 ‹_› ?_|refine gl_due_len ‹_› ‹_› ?_|refine e_bin ?_|refine e_call ?_|refine sp_cons ?_|refine sp_nil ?_)|(with_reducible refine o_add ?_; intro _ _)|(with_reducible first|refine r_assign ?_|refine r_cons ?_|refine keep_b ?_|refine call_rule ?_)|(with_reducible refine o_len_str (by (first|lia|omega)) ?_; intro _ _))
    rw [hML, ← Int.natCast_add]
    (with_reducible refine st_due_7 ‹_› ?_); intro h9 t9 H9
    repeat (first|(with_reducible first|refine sp_nil ?_|refine r_assign ?_|refine r_cons ?_|refine e_list ?_)|(with_reducible refine n_list ‹_› ?_; intro _ _ _ _))
    rename_i H10 
    (with_reducible refine st_due_8 ‹_› ?_); intro h11 t11 H11
    -- the last statement
    have st14 : ∀ (h12 : Heap) (t12 k : Nat) (vs : List Value) (codes : List Oc) (rest : List (Addr × Obj)) (CL : Addr) (tst : Tok),
        Hp h h.objs.size h12 (LV ns_due [some (.int (p : Nat) tp), some (.int (x.length : Nat) tsz), some (.int ((x.length : Int) - p - q) tgn), some (.str MK tmk), some (.int (pl : Nat) tpl), v5, some (.int (kp : Nat) tkp), some (.int ((p + ML : Nat) : Int) tst), some (.ref CL)]) ((CL, lObj vs.toArray k) :: (h.objs.size + 1 + 2, oe') :: (h.objs.size + 1 + 1, ot) :: (h.objs.size + 1 + 0, ox) :: rest) → Ops rest vs codes → vs.length ≤ 4 → codes = dueCodes x.length p q pl ML →
        WP w A1 (execs ((bodyOf (st 10)).drop 14) (env_due h.objs.size)) (Ret Q) ⟨h12, gs, dr, t12, os⟩ := by
      intro h12 t12 k vs codes rest CL tst H12 O hvl hcd
      refine r_cons ?_
      repeat (first|(with_reducible first|refine ld_due_0 ‹_› ?_|refine ld_due_3 ‹_› ?_|refine ldc_due_text 3 ‹_› (by with_unfolding_all rfl) ‹_› ?_|refine e_bin ?_|refine sp_cons ?_|refine p_none ?_|refine p_some ?_|refine r_ret ?_|refine e_slice_str ?_)|(with_reducible refine o_slice_to (by (first|lia|omega)) ‹_› ?_; intro _ _ _ _)|with_reducible refine e_tuple ‹_› ?_)
      refine s_add (Nat.le_trans (Nat.add_le_add (Txt.slice_le x _ _) (Nat.le_refl _)) (by (first|lia|omega))) fun tv1 t1 => ?_
      refine ldc_due_end 1 (by assumption) rfl de' ?_
      refine s_add (by rw [strLen_append]; have := Txt.slice_le x none (some (p : Int)); (first|lia|omega)) fun tv2 t2 => ?_
      repeat (first|(with_reducible first|refine ld_due_8 ‹_› ?_|refine sp_cons ?_|refine sp_nil ?_)|(with_reducible refine n_tuple ‹_› ?_; intro _ _ _ _ _ _))
      rename_i H13 _ _ _
      refine y _ _ _ _ _ _ vs k _ codes H13.F.keep H13.nwAll (O.mono fun p hp => .tail _ (.tail _ (.tail _ hp))) (.inr ⟨by (first|lia|omega), by rw [hMK, hEN], by rw [hMK, hML, ← hpl]; exact hcd⟩)
    have st13 : ∀ (h12 : Heap) (t12 k : Nat) (vs : List Value) (codes : List Oc) (rest : List (Addr × Obj)) (CL : Addr) (tst : Tok),
        Hp h h.objs.size h12 (LV ns_due [some (.int (p : Nat) tp), some (.int (x.length : Nat) tsz), some (.int ((x.length : Int) - p - q) tgn), some (.str MK tmk), some (.int (pl : Nat) tpl), v5, some (.int (kp : Nat) tkp), some (.int ((p + ML : Nat) : Int) tst), some (.ref CL)]) ((CL, lObj vs.toArray k) :: (h.objs.size + 1 + 2, oe') :: (h.objs.size + 1 + 1, ot) :: (h.objs.size + 1 + 0, ox) :: rest) → Ops rest vs codes → vs.length ≤ 3 → codes ++ (if pl + q < x.length then [("delete", pl + q, x.length, p + ML + q, p + ML + q)] else []) = dueCodes x.length p q pl ML →
        WP w A1 (execs ((bodyOf (st 10)).drop 13) (env_due h.objs.size)) (Ret Q) ⟨h12, gs, dr, t12, os⟩ := by
      intro h12 t12 k vs codes rest CL tst H12 O hvl hcd
      refine r_cons ?_
      refine r_if ?_
      repeat (first|(with_reducible first|refine ld_due_1 ‹_› ?_|refine ld_due_4 ‹_› ?_|refine ldc_due_tail 2 ‹_› (by with_unfolding_all rfl) ‹_› ?_|refine e_bin ?_|refine t_cmp ?_|refine t_bool ?_)|(with_reducible refine o_add ?_; intro _ _)|with_reducible refine c_lt ?_)
      by_cases hh : pl + q < x.length
      · rw [if_pos (by simp; (first|lia|omega))]
        refine r_cons ?_
        refine r_expr ?_
        refine e_meth ?_
        (with_reducible refine ld_due_8 ‹_› ?_)
        refine m_append (by have := H12.at 0 rfl; exact this) ?_
        refine cw_append ?_
        repeat (first|(with_reducible first|refine ld_due_1 ‹_› ?_|refine ld_due_4 ‹_› ?_|refine ld_due_7 ‹_› ?_|refine ldc_due_tail 2 ‹_› (by with_unfolding_all rfl) ‹_› ?_|refine e_bin ?_|refine sp_cons ?_|refine sp_nil ?_)|(with_reducible refine e_str ?_; intro _ _)|(with_reducible refine o_add ?_; intro _ _)|with_reducible refine e_tuple ‹_› ?_|(with_reducible refine n_tuple ‹_› ?_; intro _ _ _ _ _ _))
        rename_i qb h13 H13 _ _ _
        refine k_append 1 H13 rfl (by simp; (first|lia|omega)) fun h14 H14 => ?_
        dsimp only [List.set] at H14
        rw [List.push_toArray] at H14
        have H15 := H14.perm (mp5 _ _ _ _ _ _)
        try simp only [← Int.natCast_add] at H15
        refine r_nil ?_
        exact st14 h14 _ (k + 1) (vs ++ [.ref qb]) (codes ++ [("delete", pl + q, x.length, p + ML + q, p + ML + q)]) _ CL tst H15 ((O.mono fun p hp => .tail _ hp).snoc (o := ("delete", pl + q, x.length, p + ML + q, p + ML + q)) (.head _)) (by simp; (first|lia|omega)) (by rw [← hcd, if_pos hh])
      · rw [if_neg (by simp; (first|lia|omega))]
        refine r_nil ?_
        exact st14 h12 _ k vs codes rest CL tst H12 O (by (first|lia|omega)) (by rw [← hcd, if_neg hh, List.append_nil])
    have st12 : ∀ (h12 : Heap) (t12 k : Nat) (vs : List Value) (codes : List Oc) (rest : List (Addr × Obj)) (CL : Addr) (tst : Tok),
        Hp h h.objs.size h12 (LV ns_due [some (.int (p : Nat) tp), some (.int (x.length : Nat) tsz), some (.int ((x.length : Int) - p - q) tgn), some (.str MK tmk), some (.int (pl : Nat) tpl), v5, some (.int (kp : Nat) tkp), some (.int ((p + ML : Nat) : Int) tst), some (.ref CL)]) ((CL, lObj vs.toArray k) :: (h.objs.size + 1 + 2, oe') :: (h.objs.size + 1 + 1, ot) :: (h.objs.size + 1 + 0, ox) :: rest) → Ops rest vs codes → vs.length ≤ 2 → (codes ++ (if 0 < q then [("equal", pl, pl + q, p + ML, p + ML + q)] else [])) ++ (if pl + q < x.length then [("delete", pl + q, x.length, p + ML + q, p + ML + q)] else []) = dueCodes x.length p q pl ML →
        WP w A1 (execs ((bodyOf (st 10)).drop 12) (env_due h.objs.size)) (Ret Q) ⟨h12, gs, dr, t12, os⟩ := by
      intro h12 t12 k vs codes rest CL tst H12 O hvl hcd
      refine r_cons ?_
      refine r_if ?_
      repeat (first|(with_reducible first|refine ldc_due_tail 2 ‹_› (by with_unfolding_all rfl) ‹_› ?_|refine t_cmp ?_|refine t_bool ?_)|(with_reducible refine e_int ?_; intro _ _)|with_reducible refine c_gt ?_)
      by_cases hh : 0 < q
      · rw [if_pos (by simp; (first|lia|omega))]
        refine r_cons ?_
        refine r_expr ?_
        refine e_meth ?_
        (with_reducible refine ld_due_8 ‹_› ?_)
        refine m_append (by have := H12.at 0 rfl; exact this) ?_
        refine cw_append ?_
        repeat (first|(with_reducible first|refine ld_due_4 ‹_› ?_|refine ld_due_7 ‹_› ?_|refine ldc_due_tail 2 ‹_› (by with_unfolding_all rfl) ‹_› ?_|refine e_bin ?_|refine sp_cons ?_|refine sp_nil ?_)|(with_reducible refine e_str ?_; intro _ _)|(with_reducible refine o_add ?_; intro _ _)|with_reducible refine e_tuple ‹_› ?_|(with_reducible refine n_tuple ‹_› ?_; intro _ _ _ _ _ _))
        rename_i qb h13 H13 _ _ _
        refine k_append 1 H13 rfl (by simp; (first|lia|omega)) fun h14 H14 => ?_
        dsimp only [List.set] at H14
        rw [List.push_toArray] at H14
        have H15 := H14.perm (mp5 _ _ _ _ _ _)
        try simp only [← Int.natCast_add] at H15
        refine r_nil ?_
        exact st13 h14 _ (k + 1) (vs ++ [.ref qb]) (codes ++ [("equal", pl, pl + q, p + ML, p + ML + q)]) _ CL tst H15 ((O.mono fun p hp => .tail _ hp).snoc (o := ("equal", pl, pl + q, p + ML, p + ML + q)) (.head _)) (by simp; (first|lia|omega)) (by rw [← hcd, if_pos hh])
      · rw [if_neg (by simp; (first|lia|omega))]
        refine r_nil ?_
        exact st13 h12 _ k vs codes rest CL tst H12 O (by (first|lia|omega)) (by rw [← hcd, if_neg hh, List.append_nil])
    have st11 : ∀ (h12 : Heap) (t12 k : Nat) (vs : List Value) (codes : List Oc) (rest : List (Addr × Obj)) (CL : Addr) (tst : Tok),
        Hp h h.objs.size h12 (LV ns_due [some (.int (p : Nat) tp), some (.int (x.length : Nat) tsz), some (.int ((x.length : Int) - p - q) tgn), some (.str MK tmk), some (.int (pl : Nat) tpl), v5, some (.int (kp : Nat) tkp), some (.int ((p + ML : Nat) : Int) tst), some (.ref CL)]) ((CL, lObj vs.toArray k) :: (h.objs.size + 1 + 2, oe') :: (h.objs.size + 1 + 1, ot) :: (h.objs.size + 1 + 0, ox) :: rest) → Ops rest vs codes → vs.length ≤ 1 → ((codes ++ [((if kp < pl then "replace" else "insert"), kp, pl, kp, p + ML)]) ++ (if 0 < q then [("equal", pl, pl + q, p + ML, p + ML + q)] else [])) ++ (if pl + q < x.length then [("delete", pl + q, x.length, p + ML + q, p + ML + q)] else []) = dueCodes x.length p q pl ML →
        WP w A1 (execs ((bodyOf (st 10)).drop 11) (env_due h.objs.size)) (Ret Q) ⟨h12, gs, dr, t12, os⟩ := by
      intro h12 t12 k vs codes rest CL tst H12 O hvl hcd
      have step : ∀ (h13 : Heap) (t13 : Nat) (W : String) (tw : Tok) (qb : Addr) (H13 : Hp h h.objs.size h13 (LV ns_due [some (.int (p : Nat) tp), some (.int (x.length : Nat) tsz), some (.int ((x.length : Int) - p - q) tgn), some (.str MK tmk), some (.int (pl : Nat) tpl), v5, some (.int (kp : Nat) tkp), some (.int ((p + ML : Nat) : Int) tst), some (.ref CL)]) ((qb, tObj [.str (Str.ofString W) tw, .int (kp : Nat) tkp, .int (pl : Nat) tpl, .int (kp : Nat) tkp, .int ((p + ML : Nat) : Int) tst]) :: (CL, lObj vs.toArray k) :: (h.objs.size + 1 + 2, oe') :: (h.objs.size + 1 + 1, ot) :: (h.objs.size + 1 + 0, ox) :: rest)), W = (if kp < pl then "replace" else "insert") →
          AppK CL (.ref qb) (fun _ s' => WP w A1 (execs ((bodyOf (st 10)).drop 12) (env_due h.objs.size)) (Ret Q) s') ⟨h13, gs, dr, t13, os⟩ := by
        intro h13 t13 W tw qb H13 hW
        subst hW
        refine k_append 1 H13 rfl (by simp; (first|lia|omega)) fun h14 H14 => ?_
        dsimp only [List.set] at H14
        rw [List.push_toArray] at H14
        have H15 := H14.perm (mp5 _ _ _ _ _ _)
        exact st12 h14 _ (k + 1) (vs ++ [.ref qb]) (codes ++ [((if kp < pl then "replace" else "insert"), kp, pl, kp, p + ML)]) _ CL tst H15 ((O.mono fun p hp => .tail _ hp).snoc (o := ((if kp < pl then "replace" else "insert"), kp, pl, kp, p + ML)) (.head _)) (by simp; (first|lia|omega)) (by rw [← hcd])
      refine r_cons ?_
      refine r_expr ?_
      refine e_meth ?_
      (with_reducible refine ld_due_8 ‹_› ?_)
      refine m_append (by have := H12.at 0 rfl; exact this) ?_
      refine cw_append ?_
      refine e_tuple H12 ?_
      refine sp_cons ?_
      refine e_if ?_
      repeat (with_reducible first|refine ld_due_4 ‹_› ?_|refine ld_due_6 ‹_› ?_|refine t_cmp ?_|refine t_bool ?_|refine c_lt ?_)
      by_cases hh : kp < pl
      · rw [if_pos (by simp; (first|lia|omega))]
        repeat (first|(with_reducible first|refine ld_due_4 ‹_› ?_|refine ld_due_6 ‹_› ?_|refine ld_due_7 ‹_› ?_|refine sp_cons ?_|refine sp_nil ?_)|(with_reducible refine e_str ?_; intro _ _)|(with_reducible refine n_tuple ‹_› ?_; intro _ _ _ _ _ _))
        rename_i qb h13 H13 _ _ _
        exact step _ _ "replace" _ qb H13 (by rw [if_pos hh])
      · rw [if_neg (by simp; (first|lia|omega))]
        repeat (first|(with_reducible first|refine ld_due_4 ‹_› ?_|refine ld_due_6 ‹_› ?_|refine ld_due_7 ‹_› ?_|refine sp_cons ?_|refine sp_nil ?_)|(with_reducible refine e_str ?_; intro _ _)|(with_reducible refine n_tuple ‹_› ?_; intro _ _ _ _ _ _))
        rename_i qb h13 H13 _ _ _
        exact step _ _ "insert" _ qb H13 (by rw [if_neg hh])
    have st10 : ∀ (h12 : Heap) (t12 k : Nat) (vs : List Value) (codes : List Oc) (rest : List (Addr × Obj)) (CL : Addr) (tst : Tok),
        Hp h h.objs.size h12 (LV ns_due [some (.int (p : Nat) tp), some (.int (x.length : Nat) tsz), some (.int ((x.length : Int) - p - q) tgn), some (.str MK tmk), some (.int (pl : Nat) tpl), v5, some (.int (kp : Nat) tkp), some (.int ((p + ML : Nat) : Int) tst), some (.ref CL)]) ((CL, lObj vs.toArray k) :: (h.objs.size + 1 + 2, oe') :: (h.objs.size + 1 + 1, ot) :: (h.objs.size + 1 + 0, ox) :: rest) → Ops rest vs codes → vs.length ≤ 0 → ((((codes ++ (if 0 < kp then [("equal", 0, kp, 0, kp)] else [])) ++ [((if kp < pl then "replace" else "insert"), kp, pl, kp, p + ML)]) ++ (if 0 < q then [("equal", pl, pl + q, p + ML, p + ML + q)] else [])) ++ (if pl + q < x.length then [("delete", pl + q, x.length, p + ML + q, p + ML + q)] else [])) = dueCodes x.length p q pl ML →
        WP w A1 (execs ((bodyOf (st 10)).drop 10) (env_due h.objs.size)) (Ret Q) ⟨h12, gs, dr, t12, os⟩ := by
      intro h12 t12 k vs codes rest CL tst H12 O hvl hcd
      refine r_cons ?_
      refine r_if ?_
      repeat (first|(with_reducible first|refine ld_due_6 ‹_› ?_|refine t_cmp ?_|refine t_bool ?_)|(with_reducible refine e_int ?_; intro _ _)|with_reducible refine c_gt ?_)
      by_cases hh : 0 < kp
      · rw [if_pos (by simp; (first|lia|omega))]
        refine r_cons ?_
        refine r_expr ?_
        refine e_meth ?_
        (with_reducible refine ld_due_8 ‹_› ?_)
        refine m_append (by have := H12.at 0 rfl; exact this) ?_
        refine cw_append ?_
        repeat (first|(with_reducible first|refine ld_due_6 ‹_› ?_|refine sp_cons ?_|refine sp_nil ?_)|(with_reducible refine e_int ?_; intro _ _)|(with_reducible refine e_str ?_; intro _ _)|with_reducible refine e_tuple ‹_› ?_|(with_reducible refine n_tuple ‹_› ?_; intro _ _ _ _ _ _))
        rename_i qb h13 H13 _ _ _
        refine k_append 1 H13 rfl (by simp; (first|lia|omega)) fun h14 H14 => ?_
        dsimp only [List.set] at H14
        rw [List.push_toArray] at H14
        have H15 := H14.perm (mp5 _ _ _ _ _ _)
        try simp only [← Int.natCast_add] at H15
        refine r_nil ?_
        exact st11 h14 _ (k + 1) (vs ++ [.ref qb]) (codes ++ [("equal", 0, kp, 0, kp)]) _ CL tst H15 ((O.mono fun p hp => .tail _ hp).snoc (o := ("equal", 0, kp, 0, kp)) (.head _)) (by rw [List.length_append, List.length_singleton]; (first|lia|omega)) (by rw [← hcd, if_pos hh])
      · rw [if_neg (by simp; (first|lia|omega))]
        refine r_nil ?_
        exact st11 h12 _ k vs codes rest CL tst H12 O (by (first|lia|omega)) (by rw [← hcd, if_neg hh, List.append_nil])
    exact st10 h11 _ 0 [] [] [] _ _ H11 .nil (Nat.le_refl _) (by rw [← hkp]; simp [dueCodes])
  -- statements three to six
  refine r_cons ?_
  refine r_assign ?_
  refine e_bin ?_
  refine e_bin ?_
  refine e_str fun tv1 t4 => ?_
  repeat (with_reducible first|refine ld_due_2 ‹_› ?_|refine gl_due_str ‹_› ‹_› ?_|refine e_call ?_|refine sp_cons ?_|refine sp_nil ?_|refine keep_t ?_|refine call_rule ?_)
  refine s_ofint ?_ fun tv2 t5 => ?_
  · have : ((x.length : Int) - p - q).natAbs < 2 ^ 1920 := Nat.lt_of_lt_of_le (m := 2 ^ 10) (by (first|lia|omega)) (Nat.pow_le_pow_right (by decide) (by decide))
    exact (Nat.log2_lt (by (first|lia|omega))).mpr this
  refine s_add (by rw [PySem.ofString_length, PySem.ofString_length]; have e1 : ("[" : String).length = 1 := by decide
                   (first|lia|omega)) fun tv3 t6 => ?_
  refine e_str fun tv4 t7 => ?_
  refine s_add (by rw [strLen_append, PySem.ofString_length, PySem.ofString_length, PySem.ofString_length]; have e1 : ("[" : String).length = 1 := by decide
                   have e2 : (" chars]" : String).length = 7 := by decide
                   (first|lia|omega)) fun tv5 t8 => ?_
  (with_reducible refine st_due_3 ‹_› ?_); intro h4 t9 H4
  change Hp h h.objs.size h4 (LV ns_due [some (.int (p : Nat) tp), some (.int (x.length : Nat) _), some (.int ((x.length : Int) - p - q) _), some (.str (markS ((x.length : Int) - p - q)) tv5), none, none, none, none, none]) _ at H4
  repeat (first|(with_reducible first|refine ld_due_1 ‹_› ?_|refine ldc_due_text 2 ‹_› (by with_unfolding_all rfl) ‹_› ?_|refine ldc_due_tail 1 ‹_› (by with_unfolding_all rfl) ‹_› ?_|refine e_bin ?_|refine p_none ?_|refine p_some ?_)|(with_reducible refine o_sub ?_; intro _ _)|(with_reducible first|refine r_assign ?_|refine r_cons ?_|refine e_slice_str ?_)|(with_reducible refine o_slice_from (by (first|lia|omega)) ‹_› ?_; intro _ _ _ _))
  rename_i h5 tve t10 H5
  refine stc_due_end 0 H5 rfl de fun h6 oe' de' H6 => ?_
  dsimp only [List.set] at H6
  repeat (with_reducible first|refine ld_due_1 ‹_› ?_|refine r_assign ?_|refine r_cons ?_)
  (with_reducible refine st_due_4 ‹_› ?_); intro h7 t11 H7
  repeat (first|(with_reducible first|refine ldc_due_tail 1 ‹_› (by with_unfolding_all rfl) ‹_› ?_|refine t_cmp ?_|refine t_bool ?_)|(with_reducible refine e_int ?_; intro _ _)|(with_reducible first|refine c_gt ?_|refine r_if ?_|refine r_cons ?_))
  by_cases hq0 : q = 0
  · rw [if_neg (by simp; (first|lia|omega))]
    refine r_nil ?_
    exact st7 h7 _ x.length _ _ _ _ _ _ oe' (by unfold placeOf; rw [if_pos hq0]) (Nat.le_refl _) de' H7
  · rw [if_pos (by simp; (first|lia|omega))]
    have lo : ∀ (h8 : Heap) (t12 : Nat) (lw : Nat) (tl tsz tgn tpl : Tok), lw = lowOf p q → Hp h h.objs.size h8 (LV ns_due [some (.int (p : Nat) tp), some (.int (x.length : Nat) tsz), some (.int ((x.length : Int) - p - q) tgn), some (.str (markS ((x.length : Int) - p - q)) tv5), some (.int (x.length : Nat) tpl), some (.int (lw : Nat) tl), none, none, none]) [(h.objs.size + 1 + 2, oe'), (h.objs.size + 1 + 1, ot), (h.objs.size + 1 + 0, ox)] →
        WP w A1 (execs ((ifB (nthS (bodyOf (st 10)) 6)).drop 1) (env_due h.objs.size)) (Seq (fun s' => WP w A1 (execs ((bodyOf (st 10)).drop 7) (env_due h.objs.size)) (Ret Q) s') (Ret Q)) ⟨h8, gs, dr, t12, os⟩ := by
      intro h8 t12 lw tl tsz tgn tpl hlw H8
      subst hlw
      have hl := low_le p q
      refine r_cons ?_
      refine r_assign ?_
      refine e_call ?_
      (with_reducible refine gl_due_min ‹_› ‹_› ?_)
      refine call_rule ?_
      refine sp_cons ?_
      refine e_compH H8 (clos_due _) ce_due kd_due nm_due ?_
      repeat (first|(with_reducible first|refine ld_due_1 ‹_› ?_|refine ld_due_5 ‹_› ?_|refine gl_due_range ‹_› ‹_› ?_|refine ldc_due_tail 1 ‹_› (by with_unfolding_all rfl) ‹_› ?_|refine e_bin ?_|refine e_call ?_|refine sp_cons ?_|refine sp_nil ?_)|(with_reducible refine e_int ?_; intro _ _)|(with_reducible refine o_add ?_; intro _ _)|(with_reducible refine o_sub ?_; intro _ _)|(with_reducible first|refine keep_t ?_|refine call_rule ?_))
      refine o_range H8 fun r h9 t13 u v xx H9 => ?_
      refine it_range H9 (by (first|lia|omega)) (by (first|lia|omega)) (by (first|lia|omega)) (by (first|lia|omega)) fun it h10 H10 => ?_
      rw [show ((x.length : Int) - q + 1 - (lowOf p q : Nat)).toNat = (x.length - q + 1) - lowOf p q by (first|lia|omega)] at H10
      refine ⟨it, _, h10, _, rfl, rfl, H10, self_ri, fun D C h11 t14 oL hL H11 => ?_⟩
      obtain ⟨r, er, hr, hr2, -, -⟩ := hits_cons (x := x) (p := p) (q := q) (by (first|lia|omega)) (by (first|lia|omega))
      refine due_loop (x := x) (q := q) (low := lowOf p q) (hi := x.length - q + 1) hA1 hx2 (by rw [cast1]; exact sl_from (by (first|lia|omega))) (by (first|lia|omega)) rfl de' dt dx ⟨h11, _, lowOf p q, #[], lObj #[] 0, _, rfl, rfl, Nat.le_refl _, by (first|lia|omega), H11, isl0, by simp⟩ fun h12 t15 xs oD mC H12 hD hxs => ?_
      refine comp_end H12 hL H8.F.above fun h13 H13 => ?_
      refine sp_nil ?_
      refine keep_b ?_
      change xs.toList.map (·.1) = (hitsOf x p q).map Int.ofNat at hxs
      rw [er] at hxs
      refine k_minL (a := (placeOf x p q : Nat)) (r := r.map Int.ofNat) 0 hA1.hh H13 rfl hD hxs (fun b hb => by
        obtain ⟨c, hc, rfl⟩ := List.mem_map.mp hb
        exact Int.ofNat_le.mpr (hr c hc)) fun h14 t16 tv14 H14 => ?_
      (with_reducible refine st_due_4 ‹_› ?_); intro h15 t17 H15
      refine r_nil ?_
      exact st7 h15 _ _ _ _ _ _ _ _ oe' rfl (by (first|lia|omega)) de' (H15.skip 1)
    refine r_cons ?_
    refine r_assign ?_
    refine e_if ?_
    repeat (with_reducible first|refine ld_due_0 ‹_› ?_|refine ldc_due_tail 1 ‹_› (by with_unfolding_all rfl) ‹_› ?_|refine t_cmp ?_|refine t_bool ?_|refine c_ge ?_)
    by_cases hqp : q ≤ p
    · rw [if_pos (by simp; (first|lia|omega))]
      repeat (with_reducible refine ld_due_0 ‹_› ?_)
      (with_reducible refine st_due_5 ‹_› ?_); intro h8 t12 H8
      exact lo h8 _ p _ _ _ _ (by unfold lowOf; rw [if_pos hqp]) H8
    · rw [if_neg (by simp; (first|lia|omega))]
      repeat (with_reducible refine e_int ?_; intro _ _)
      (with_reducible refine st_due_5 ‹_› ?_); intro h8 t12 H8
      exact lo h8 _ 0 _ _ _ _ (by unfold lowOf; rw [if_neg hqp]) H8
end
noncomputable def dKeys (e : Expr) : List (Option Expr) := match e with | .Dict ks _ _ => ks | _ => []
noncomputable def dVals (e : Expr) : List Expr := match e with | .Dict _ vs _ => vs | _ => []
noncomputable def dPos (e : Expr) : Pos := match e with | .Dict _ _ p => p | _ => default
noncomputable def wordsE : Expr := rhs (nthS (bodyOf (st 11)) 0)
noncomputable def turnC : Expr := rhs (nthS (bodyOf (st 11)) 1)
noncomputable def turnSc : Scope := lcSc turnC (scoOf (st 11))
noncomputable def turnCl (L : Addr) : List (Str × Addr) := [(Str.ofString "words", L + 1 + 0)]
theorem clos_turn (L : Addr) : closureFor turnSc (env_turned L) = pure (turnCl L) := by kernel_rfl!
theorem ce_turn : ∀ y ∈ turnSc.names, y.2 ≠ .cell := by
  intro y hy; have : (turnSc.names.all fun y => y.2 != .cell) = true := by kernel_rfl!
  simpa using List.all_eq_true.mp this y hy
theorem nm_turn : ∀ y ∈ turnSc.names, y.2 = .local → turnSc.names.lookup y.1 = some .local := by
  intro y hy e; have : (turnSc.names.all fun y => y.2 != .local || (match turnSc.names.lookup y.1 with | some .local => true | _ => false)) = true := by kernel_rfl!
  have := List.all_eq_true.mp this y hy
  rw [e] at this
  revert this
  split
  · rename_i q; intro _; exact q
  · intro z; cases z
theorem kd_turn : turnSc.kind = .function := by kernel_rfl!
noncomputable def cenv_turn (L C : Addr) : Env := compEnvC turnSc (turnCl L) C (env_turned L)
noncomputable def wordsP (env : Env) : List (Sem Value × Sem Value) := ((evalEachOpt (dKeys wordsE) env).zip ((evalEach (dVals wordsE) env).map fun v => do let x ← v; standAt (dPos wordsE); pure x)).filterMap fun p => p.1.map fun k => (k, p.2)
noncomputable def turnW (x : String) : String := if x = "insert" then "delete" else if x = "delete" then "insert" else x
noncomputable def turnO (o : Oc) : Oc := (turnW o.1, o.2.2.2.1, o.2.2.2.2, o.2.1, o.2.2.1)
noncomputable def IsWord (x : String) : Prop := x = "equal" ∨ x = "replace" ∨ x = "insert" ∨ x = "delete"
-- the table of words
noncomputable def WT (w : World) (o : Obj) : Prop := ∃ f : Str → Option Value, IsMp (strKind pw w) o f ∧ ∀ x, IsWord x → ∃ tk, f (Str.ofString x) = some (.str (Str.ofString (turnW x)) tk)
section
variable {w : World} {A : Around} {gs : Array GenState} {dr : Drawn} {os : OsState} {g h h' : Heap} {L C I D : Addr} {d u t : Nat} {m mC : Str → Option Value} {news nw more : List (Addr × Obj)} {pos : Pos} {env : Env}
theorem p_cons {x y : Str} {kk : Nat} {pk pv : Pos} {ky : Nat} {rest : List (Sem Value × Sem Value)} {Q : List (Value × Value) → Shared → Prop} {t : Nat}
    (z : ∀ t1 t2 t', WP w A (evalPairs rest) (fun vs s₃ => Q ((.str x t1, .str y t2) :: vs) s₃) ⟨h, gs, dr, t', os⟩) :
    WP w A (evalPairs ((eval (.Constant (.str x) kk pk) env, (do let r ← eval (.Constant (.str y) ky pv) env; standAt pos; pure r)) :: rest)) Q ⟨h, gs, dr, t, os⟩ := by
  refine evalPairs_cons (e_str fun t1 t3 => wpAny_bind (e_str fun t2 t4 => ?_))
  exact wpAny_bind (wpAny_standAt (wpAny_pure (z t1 t2 t4)))
theorem e_words {Q : Value → Shared → Prop} (H : Hp g L h m news) (y : ∀ a h' t' o, WT w o → Hp g L h' m ((a, o) :: news) → Q (.ref a) ⟨h', gs, dr, t', os⟩) : WP w A (eval wordsE (env_turned L)) Q ⟨h, gs, dr, t, os⟩ := by
  show WP w A (eval (.Dict (dKeys wordsE) (dVals wordsE) (dPos wordsE)) _) _ _
  refine wpAny_Dict_pairs (knd := strKind pw w) (pairs := wordsP (env_turned L)) (by with_unfolding_all rfl) (by intro e; cases congrArg List.length e) (by apply Nat.le_of_ble_eq_true; with_unfolding_all rfl) ?_
  unfold wordsP
  refine p_cons fun t1 t2 t' => ?_
  refine p_cons fun t3 t4 t'' => ?_
  refine p_cons fun t5 t6 t'' => ?_
  refine p_cons fun t7 t8 t'' => ?_
  refine evalPairs_nil ?_
  have H1 := H.push { cls := .type "dict", data := .dict #[] }
  refine ⟨[(Str.ofString "equal", .str (Str.ofString "equal") t2), (Str.ofString "replace", .str (Str.ofString "replace") t4), (Str.ofString "insert", .str (Str.ofString "delete") t6), (Str.ofString "delete", .str (Str.ofString "insert") t8)],
    ⟨strKind_is pw w _ _, rfl, strKind_is pw w _ _, rfl, strKind_is pw w _ _, rfl, strKind_is pw w _ _, rfl, trivial⟩, Heap.DictOf.new _, fun h' hm hs => ?_⟩
  obtain ⟨o, ho, hd⟩ := mp_iff.mp hm.mapOf
  refine y _ h' _ o ⟨_, hd, fun x hx => ?_⟩ (H1.put 0 rfl hs ho)
  show ∃ tk, valueAt (stored (stored (stored (stored ([] : List (Str × Value)) (Str.ofString "equal") (.str (Str.ofString "equal") t2)) (Str.ofString "replace") (.str (Str.ofString "replace") t4)) (Str.ofString "insert") (.str (Str.ofString "delete") t6)) (Str.ofString "delete") (.str (Str.ofString "insert") t8)) (Str.ofString x) = some (.str (Str.ofString (turnW x)) tk)
  simp only [valueAt_stored, sinj]
  rcases hx with rfl | rfl | rfl | rfl <;> simp [turnW, sinj]
end
theorem Ops.get {r : List (Addr × Obj)} {vs : List Value} {bs : List Oc} (m : Ops r vs bs) {x : Nat} {b : Oc} (e : bs[x]? = some b) : ∃ a t0 t1 t2 t3 t4, vs[x]? = some (.ref a) ∧ (a, oObj b t0 t1 t2 t3 t4) ∈ r := by
  induction m generalizing x with
  | nil => simp at e
  | cons h1 _ ih => cases x with
    | zero => simp at e; subst e; exact ⟨_, _, _, _, _, _, by simp, h1⟩
    | succ x => simpa using ih (by simpa using e)
theorem Ops.length {r : List (Addr × Obj)} {vs : List Value} {bs : List Oc} (m : Ops r vs bs) : vs.length = bs.length := by
  induction m with
  | nil => rfl
  | cons _ _ ih => simp [ih]
noncomputable def TI (gs : Array GenState) (dr : Drawn) (os : OsState) (g : Heap) (L C D I cl W : Addr) (oL ow oW : Obj) (codes : List Oc) (n : Nat) (s : Shared) : Prop :=
  ∃ (h : Heap) (t j : Nat) (ys : List Value) (oD oI : Obj) (rest : List (Addr × Obj)) (mC : Str → Option Value), s = ⟨h, gs, dr, t, os⟩ ∧ n = codes.length - j ∧ j ≤ codes.length ∧ Hp g C h mC ((L, oL) :: (D, oD) :: (I, oI) :: (L + 1 + 0, ow) :: (W, oW) :: rest) ∧ IsL oD ys.toArray ∧ IsLI oI cl j ∧
    Ops rest ys ((codes.take j).map turnO)
section
variable {w : World} {A : Around} {gs : Array GenState} {dr : Drawn} {os : OsState} {g h h' : Heap} {L C I D : Addr} {d u t : Nat} {m mC : Str → Option Value} {news nw more : List (Addr × Obj)} {pos : Pos} {env : Env}
theorem x_dict {value slice : Expr} {D : Addr} {o : Obj} {f : Str → Option Value} {x : Str} {tk : Tok} {v : Value} {Q : Value → Shared → Prop} (e : h.get? D = some o) (hm : IsMp (strKind pw w) o f) (hv : f x = some v) (y : ∀ t', Q v ⟨h, gs, dr, t', os⟩)
    (hs : subscripted slice false (.ref D) (.str x tk) = operate [.ref D, .str x tk] (getItem (.ref D) (.str x tk)) := by with_unfolding_all rfl) (hg : ∀ r, letTemporaryGo value (.ref D) r = pure () := by intro _; with_unfolding_all rfl) :
    WP w A (subscriptTail value slice (.ref D) (.str x tk)) Q ⟨h, gs, dr, t, os⟩ := by
  have hT : (⟨h, gs, dr, t, os⟩ : Shared).TypeIs (.ref D) "dict" := by
    obtain ⟨es, ep, c, _⟩ := hm
    exact ⟨o, e, c.1⟩
  exact PyProof.Rows.subscriptTail_builtin (T := "dict") hT slot_dict_getitem.lookup (wpAny_getItem_of (strKind_is pw w x tk) (mp_iff.mpr ⟨o, e, hm⟩) hv (y _)) hs hg
theorem tc_loc {n : String} {Q : Value → Shared → Prop} {v : Value} (H : Hp g C h mC news) (hx : turnSc.names.lookup (Str.ofString n) = some .local) (hd : (Str.ofString n == ("__debug__" : Str)) = false) (hv : mC (Str.ofString n) = some v) (y : Q v ⟨h, gs, dr, t, os⟩) : WP w A (eval (.Name (Str.ofString n) pos) (cenv_turn L C)) Q ⟨h, gs, dr, t, os⟩ := cx_loc H kd_turn hx hd hv y
theorem tc_words {Q : Value → Shared → Prop} {v : Value} {o : Obj} (i : Nat) (H : Hp g C h mC news) (e : news[i]? = some (L + 1 + 0, o)) (hd : o.data = .cell (some v)) (y : Q v ⟨h, gs, dr, t, os⟩) : WP w A (eval (.Name (Str.ofString "words") pos) (cenv_turn L C)) Q ⟨h, gs, dr, t, os⟩ :=
  cx_cell i H e hd kd_turn (by kernel_rfl!) (by kernel_rfl!) (by decide) y
theorem tc_set {n : String} {v : Value} {Q : Unit → Shared → Prop} (H : Hp g C h mC news) (hx : turnSc.names.lookup (Str.ofString n) = some .local) (y : ∀ h' t', Hp g C h' (fun y => if y = Str.ofString n then some v else mC y) news → Q () ⟨h', gs, dr, t', os⟩) :
    WP w A (storeName (cenv_turn L C) (Str.ofString n) v) Q ⟨h, gs, dr, t, os⟩ := cx_set H kd_turn hx y
set_option maxHeartbeats 1000000 in
theorem turn_loop {cl W : Addr} {oL ow oW : Obj} {vs : List Value} {k : Nat} {codes : List Oc} {r0 : List (Addr × Obj)} {R : Result → Shared → Prop} {s : Shared} (hA : AOk A d u) (hcl : g.get? cl = some (lObj vs.toArray k)) (h0 : ∀ p ∈ r0, g.get? p.1 = some p.2) (O : Ops r0 vs codes) (hw : ∀ o ∈ codes, IsWord o.1) (hlen : codes.length ≤ 100)
    (dw : ow.data = .cell (some (.ref W))) (hW : WT w oW)
    (I0 : TI gs dr os g L C D I cl W oL ow oW codes codes.length s)
    (y : ∀ (h : Heap) (t : Nat) (ys : List Value) (oD : Obj) (rest : List (Addr × Obj)) (mC : Str → Option Value), Hp g C h mC ((L, oL) :: (D, oD) :: (L + 1 + 0, ow) :: (W, oW) :: rest) → IsL oD ys.toArray → Ops rest ys (codes.map turnO) → R (.ok .next) ⟨h, gs, dr, t, os⟩) :
    CompK w A (cenv_turn L C) (lcElt turnC) (lcGen turnC).target (lcGen turnC).iter (lcGen turnC).ifs turnSc (lcPos turnC) I D R s := by
  refine comp_inv (TI gs dr os g L C D I cl W oL ow oW codes) (fun n s hI => ?_) _ I0
  obtain ⟨h, t, j, ys, oD, oI, rest, mC, rfl, rfl, hj, H, hD, hI, O1⟩ := hI
  have hvl := O.length
  have hyl := O1.length
  rw [List.length_map, List.length_take] at hyl
  by_cases hlt : j < codes.length
  · obtain ⟨a, t0, t1, t2, t3, t4, e1, e2⟩ := O.get (List.getElem?_eq_getElem hlt)
    generalize ho : codes[j] = o at e2
    have hwo : IsWord o.1 := hw o (by rw [← ho]; exact List.getElem_mem hlt)
    refine nx_list 2 H rfl hI (lo_isList (H.base hcl)) (x := .ref a) (by simpa using e1) fun h1 oI' hI' H1 => ?_
    dsimp only [List.set] at H1 ⊢
    refine go_li (H1.at 2 rfl) hI' ?_
    refine a_tupK [(Str.ofString "word", _), (Str.ofString "i", _), (Str.ofString "j", _), (Str.ofString "k", _), (Str.ofString "l", _)] hA.hh H1 (H1.base (h0 _ e2)) (by with_unfolding_all rfl) (by with_unfolding_all rfl) (by with_unfolding_all rfl) fun h2 k2 H2 => ?_
    dsimp only [List.map]
    refine stn_cons ?_
    refine tc_set H2 (by kernel_rfl!) fun h3 t3 H3 => ?_
    refine stn_cons ?_
    refine tc_set H3 (by kernel_rfl!) fun h4 t4 H4 => ?_
    refine stn_cons ?_
    refine tc_set H4 (by kernel_rfl!) fun h5 t5 H5 => ?_
    refine stn_cons ?_
    refine tc_set H5 (by kernel_rfl!) fun h6 t6 H6 => ?_
    refine stn_cons ?_
    refine tc_set H6 (by kernel_rfl!) fun h7 t7 H7 => ?_
    refine stn_nil ?_
    refine ts_none ?_
    rw [if_pos rfl]
    change WP w A (eval _ (cenv_turn L C)) _ _
    refine e_tuple H7 ?_
    refine sp_cons ?_
    refine e_sub ?_
    refine tc_words 3 H7 rfl dw ?_
    refine tc_loc (n := "word") H7 (by kernel_rfl!) (by decide) (by simp [sinj]; rfl) ?_
    obtain ⟨f, hf, hfx⟩ := hW
    obtain ⟨tw, hv⟩ := hfx _ hwo
    refine x_dict (H7.at 4 rfl) hf hv fun t8 => ?_
    refine sp_cons ?_
    refine tc_loc (n := "k") H7 (by kernel_rfl!) (by decide) (by simp [sinj]; rfl) ?_
    refine sp_cons ?_
    refine tc_loc (n := "l") H7 (by kernel_rfl!) (by decide) (by simp; rfl) ?_
    refine sp_cons ?_
    refine tc_loc (n := "i") H7 (by kernel_rfl!) (by decide) (by simp [sinj]; rfl) ?_
    refine sp_cons ?_
    refine tc_loc (n := "j") H7 (by kernel_rfl!) (by decide) (by simp [sinj]; rfl) ?_
    refine sp_nil ?_
    refine n_tuple H7 fun T h8 H8 _ _ _ => ?_
    refine c_append 2 H8 rfl hD (by simp; (first|lia|omega)) fun h9 oD' hD' H9 => ?_
    dsimp only [List.set] at H9
    rw [List.push_toArray] at hD'
    have H10 := H9.perm (List.perm_middle (a := (T, _)) (l₁ := [_, _, _, _, _])).symm
    refine ⟨codes.length - (j + 1), by (first|lia|omega), h9, _, j + 1, ys ++ [.ref T], oD', oI', _, _, rfl, rfl, by (first|lia|omega), H10, hD', hI', ?_⟩
    rw [List.take_add_one, List.getElem?_eq_getElem hlt, ho, List.map_append]
    exact (O1.mono fun p hp => .tail _ hp).snoc (o := turnO o) (.head _)
  · have : j = codes.length := by (first|lia|omega)
    subst this
    refine nx_list_end 2 hA.hh H rfl hI (lo_isList (H.base hcl)) (by simp [hvl]) fun h3 H3 => ?_
    dsimp only [List.eraseIdx] at H3 ⊢
    rw [List.take_length] at O1
    exact y h3 _ ys oD rest mC H3 hD O1
end
section
variable {w : World} {A : Around} {gs : Array GenState} {dr : Drawn} {os : OsState} {g h h' : Heap} {L C I D : Addr} {d u t : Nat} {m mC : Str → Option Value} {news nw more : List (Addr × Obj)} {pos : Pos} {env : Env}
theorem bind_turned {L : Addr} {a : Value} : bindL (env_turned L).kindOf [(Str.ofString "codes", a)] (fun _ => none) = LV ns_turned [some a] := by
  have k1 : (env_turned L).kindOf (Str.ofString "codes") = some .local := by kernel_rfl!
  funext y
  simp only [bindL, k1, if_true]
  simp only [ns_turned, LV]
theorem bindC_turned {L : Addr} {a : Value} : (bindC (env_turned L).kindOf [(Str.ofString "codes", a)] (fun _ => none)) (Str.ofString "words") = none := by
  have k1 : (env_turned L).kindOf (Str.ofString "codes") = some .local := by kernel_rfl!
  simp only [bindC, k1, if_true]
set_option maxHeartbeats 4000000 in
theorem turned_enter {a : Value} {Q : Value → Shared → Prop} (B : Bs w h) (hA : AOk A d u) (hd : d < recursionLimit)
    (y : ∀ h' t' ow, Hp h h.objs.size h' (LV ns_turned [some a]) [(h.objs.size + 1 + 0, ow)] → ow.data = .cell none → Ext h h' →
      WP w (A.deeper (env_turned h.objs.size)) (execs (bodyOf (st 11)) (env_turned h.objs.size)) (Ret Q) ⟨h', gs, dr, t', os⟩) :
    WP w A (call (.ref 263) [a]) Q ⟨h, gs, dr, t, os⟩ := by
  refine enterX (binds := [(Str.ofString "codes", a)]) B hA hd ok_turned.kind (lk_263 _) (cd_263 _) (.of_eq (by kernel_rfl!)) ?_ ?_ (by kernel_rfl!) (by kernel_rfl!) ?_
  · intro n x hx
    simp only [List.mem_cons, List.not_mem_nil, or_false] at hx
    subst hx
    exact .inl (by kernel_rfl!)
  · have := cl_turned 0
    rw [this]; simp
  · intro h' t' cells F N CA k
    change CellsAre (bindC (env_turned h.objs.size).kindOf [(Str.ofString "codes", a)] (fun _ => none)) (cellsFrom (h.objs.size + 1) (scoOf (st 11)).names []) cells at CA
    rw [cl_turned] at CA
    obtain ⟨ow, rfl, e1⟩ := CA.one
    rw [bindC_turned] at e1
    change Fr h h.objs.size h' (bindL (env_turned h.objs.size).kindOf [(Str.ofString "codes", a)] (fun _ => none)) at F
    rw [bind_turned] at F
    have H : Hp h h.objs.size h' (LV ns_turned [some a]) [(h.objs.size + 1 + 0, ow)] := ⟨F, N, by simp⟩
    unfold env_turned at y
    generalize execs (bodyOf (st 11)) _ = X at y ⊢
    exact y h' t' ow H e1 k
set_option maxHeartbeats 1000000 in
theorem turned_ok {cl : Addr} {vs : List Value} {k : Nat} {codes : List Oc} {r0 : List (Addr × Obj)} {Q : Value → Shared → Prop} (B : Bs w h) (hA : AOk A d u) (hd : d < recursionLimit) (hcl : h.get? cl = some (lObj vs.toArray k)) (h0 : ∀ p ∈ r0, h.get? p.1 = some p.2) (O : Ops r0 vs codes) (hw : ∀ o ∈ codes, IsWord o.1) (hlen : codes.length ≤ 100)
    (y : ∀ h' t' D oD ys rest, Ext h h' → Nw h h' ((D, oD) :: rest) → IsL oD ys.toArray → Ops rest ys (codes.map turnO) → Q (.ref D) ⟨h', gs, dr, t', os⟩) :
    WP w A (call (.ref 263) [.ref cl]) Q ⟨h, gs, dr, t, os⟩ := by
  refine turned_enter B hA hd fun h1 t1 ow H dw k1 => ?_
  have hA1 := hA.deeper (env_turned h.objs.size)
  revert hA1
  generalize A.deeper _ = A1
  intro hA1
  refine r_cons ?_
  refine r_assign ?_
  change WP w A1 (eval wordsE (env_turned h.objs.size)) _ _
  with_reducible refine e_words H ?_
  intro W h2 t2 oW hW H2
  refine stc_turned_words 1 H2 rfl dw fun h3 ow' dw' H3 => ?_
  dsimp only [List.set] at H3
  have H4 := H3.perm (List.Perm.swap _ _ _)
  refine r_cons ?_
  refine r_ret ?_
  refine e_compH H4 (clos_turn _) ce_turn kd_turn nm_turn ?_
  refine ld_turned_0 H4 ?_
  refine it_list H4 (lo_isList (H4.base hcl)) fun it h5 oI hI H5 => ?_
  refine ⟨it, oI, h5, _, rfl, rfl, H5, self_li hI, fun D C h6 t6 oL hL H6 => ?_⟩
  refine turn_loop (vs := vs) (k := k) (codes := codes) (r0 := r0) hA1 hcl h0 O hw hlen dw' hW ⟨h6, t6, 0, [], _, oI, [], _, rfl, rfl, Nat.zero_le _, H6, lIsL, hI, .nil⟩ fun h7 t7 ys oD rest mC H7 hD O7 => ?_
  refine comp_end H7 hL H.F.above fun h8 H8 => ?_
  exact y h8 _ D oD ys _ H8.F.keep H8.nwAll hD (O7.mono fun p hp => .tail _ (.tail _ hp))
end
section
open PySem.SeqAt
variable {w : World} {A : Around} {gs : Array GenState} {dr : Drawn} {os : OsState} {g h h' : Heap} {L C I D : Addr} {d u t : Nat} {m mC : Str → Option Value} {news nw more : List (Addr × Obj)} {pos : Pos} {env : Env}
theorem eq_op {s : Shared} {a b : Addr} {o : Oc} {t0 t1 t2 t3 t4 u0 u1 u2 u3 u4 : Tok} (ea : s.heap.get? a = some (oObj o t0 t1 t2 t3 t4)) (eb : s.heap.get? b = some (oObj o u0 u1 u2 u3 u4)) (hu : A.units < cLine) : EqAt A s (.ref a) (.ref b) true := by
  have la : s.heap.IsTuple a #[.str (Str.ofString o.1) t0, .int (o.2.1 : Nat) t1, .int (o.2.2.1 : Nat) t2, .int (o.2.2.2.1 : Nat) t3, .int (o.2.2.2.2 : Nat) t4] := ⟨_, ea, rfl, 0, rfl⟩
  have lb : s.heap.IsTuple b #[.str (Str.ofString o.1) u0, .int (o.2.1 : Nat) u1, .int (o.2.2.1 : Nat) u2, .int (o.2.2.2.1 : Nat) u3, .int (o.2.2.2.2 : Nat) u4] := ⟨_, eb, rfl, 0, rfl⟩
  by_cases hab : a = b
  · subst hab
    intro prog w E Q hq
    unfold eqBool
    refine wpAny_holding ?_
    rw [if_pos (beq_self_eq_true _)]
    exact wpAny_bind (wpAny_rule (wpAny_pure hq))
  refine EqAt.of_refs hab ?_
  have := RcAt.tuples (A := A) (e := fun _ => true) la lb hu (fun j h1 h2 => by
    match j, h1, h2 with
    | 0, _, _ => have := EqAt.str_str (A := A.in1) (s := s) (Str.ofString o.1) t0 (Str.ofString o.1) u0; rw [beq_self_eq_true] at this; exact this
    | 1, _, _ => have := EqAt.int_int (A := A.in1) (s := s) (o.2.1 : Nat) t1 (o.2.1 : Nat) u1; rw [beq_self_eq_true] at this; exact this
    | 2, _, _ => have := EqAt.int_int (A := A.in1) (s := s) (o.2.2.1 : Nat) t2 (o.2.2.1 : Nat) u2; rw [beq_self_eq_true] at this; exact this
    | 3, _, _ => have := EqAt.int_int (A := A.in1) (s := s) (o.2.2.2.1 : Nat) t3 (o.2.2.2.1 : Nat) u3; rw [beq_self_eq_true] at this; exact this
    | 4, _, _ => have := EqAt.int_int (A := A.in1) (s := s) (o.2.2.2.2 : Nat) t4 (o.2.2.2.2 : Nat) u4; rw [beq_self_eq_true] at this; exact this
    | j + 5, h1, _ => exact absurd h1 (by simp))
  exact this
-- two lists of the same edit operations are not unlike
theorem ne_ops {l1 l2 : Addr} {vs1 vs2 : List Value} {codes : List Oc} {r1 r2 : List (Addr × Obj)} {Q : Value → Shared → Prop} (hl1 : h.IsList l1 vs1.toArray) (hl2 : h.IsList l2 vs2.toArray) (h1 : ∀ p ∈ r1, h.get? p.1 = some p.2) (h2 : ∀ p ∈ r2, h.get? p.1 = some p.2) (O1 : Ops r1 vs1 codes) (O2 : Ops r2 vs2 codes) (hu : A.units + 1 < cLine)
    (y : Q (.bool false) ⟨h, gs, dr, t, os⟩) : WP w A (compareOp .NotEq (.ref l1) (.ref l2)) Q ⟨h, gs, dr, t, os⟩ := by
  have e1 := O1.length
  have e2 := O2.length
  refine RcNeAt.lists (s := ⟨h, gs, dr, t, os⟩) (e := fun _ => true) hl1 hl2 (by simp [e1, e2]) (by (first|lia|omega)) (fun j j1 j2 => ?_) pw w _ Q ?_
  · have hj : j < codes.length := by simp at j1; (first|lia|omega)
    obtain ⟨a, t0, t1, t2, t3, t4, ea, ma⟩ := O1.get (List.getElem?_eq_getElem hj)
    obtain ⟨b, u0, u1, u2, u3, u4, eb, mb⟩ := O2.get (List.getElem?_eq_getElem hj)
    have fa : vs1.toArray[j] = .ref a := by simp; have := List.getElem?_eq_some_iff.mp ea; exact this.2
    have fb : vs2.toArray[j] = .ref b := by simp; have := List.getElem?_eq_some_iff.mp eb; exact this.2
    rw [fa, fb]
    exact eq_op (h1 _ ma) (h2 _ mb) hu
  · have : (!(List.range vs1.toArray.size).all fun _ => true) = false := by simp
    rw [this]; exact y
end
-- the matcher's answer for two texts, in plain words
noncomputable def Goes (a b : List Nat) (codes : List Oc) : Prop := ∃ res n, Runs a b (some (0, a.length, 0, b.length)) [] res n ∧ res.length ≤ 2 ∧ (∀ p q, res = [p, q] → p.1 ≠ q.1) ∧ (blocksOf (Asc res) a.length b.length).length ≤ 100 ∧ codesOf 0 0 (blocksOf (Asc res) a.length b.length) = codes
section
variable {w : World} {A : Around} {gs : Array GenState} {dr : Drawn} {os : OsState} {g h h' : Heap} {L : Addr} {d u t : Nat} {m : Str → Option Value} {news nw : List (Addr × Obj)} {mt dm D J : Addr} {es : List DictEntry} {nd c : Nat} {vs : List (Option Value)} {a b : Str} {ta tb : Tok}
theorem lift_news {i : Nat} (B : Bs w g) (H : Hp g L h m news) (e : news[i]? = some (dm, dictOf es nd)) : ∃ g', Bs w g' ∧ Ext g' h ∧ g'.objs.size = h.objs.size ∧ g'.get? dm = none ∧ ∀ p ∈ news, p.1 ≠ dm → g'.get? p.1 = some p.2 := by
  obtain ⟨g', B', k1, k2, e1, e2, e3⟩ := lift B H.F.keep (Nat.le_trans H.F.above (Nat.le_of_lt H.ltL)) (H.new i e) (H.at i e)
  exact ⟨g', B', k2, e1, e2, fun p hp hne => (e3 _ hne).trans (H.mem hp)⟩
theorem goc_step {codes : List Oc} {Q : Value → Shared → Prop} (i : Nat) (B : Bs w g) (hA : AOk A d u) (hd : d + 4 < recursionLimit) (hu : u + 7 < cLine) (H : Hp g L h m news) (e : news[i]? = some (dm, dictOf es nd)) (hm : (mt, instObj 249 dm) ∈ news) (hmd : mt ≠ dm) (at_ : Att es vs c) (hc : c ≤ 800)
    (ea : vs[1]? = some (some (.str a ta))) (eb : vs[2]? = some (some (.str b tb))) (eM : vs[4]? = some (some .none)) (eO : vs[5]? = some (some .none)) (eD : vs[7]? = some (some (.ref D))) (eJ : vs[8]? = some (some (.ref J)))
    (S : Sta w nw D J b.cps.toList) (hS : ∀ p ∈ nw, p ∈ news ∧ p.1 ≠ dm) (ha : a.length ≤ 1000) (hb : b.length ≤ 1000) (G : Goes a.cps.toList b.cps.toList codes)
    (y : ∀ (AN : Addr) (h' : Heap) (t' : Nat) (ans : List Value) (k' : Nat) (rest' : List (Addr × Obj)) (es' : List DictEntry) (nd' : Nat) (vs' : List (Option Value)), Hp g L h' m (((AN, lObj ans.toArray k') :: rest') ++ news.set i (dm, dictOf es' nd')) → Att es' vs' (c + 2) → vs'.take 4 = vs.take 4 → vs'.drop 6 = vs.drop 6 → vs'[5]? = some (some (.ref AN)) →
      Ops rest' ans codes → ExtB dm h h' → Q (.ref AN) ⟨h', gs, dr, t', os⟩) :
    WP w A (call (.ref 217) [.ref mt]) Q ⟨h, gs, dr, t, os⟩ := by
  obtain ⟨g', B', k2, e1, e2, e3⟩ := lift_news B H e
  obtain ⟨res, n, R, r2, rne, rbl, rc⟩ := G
  have kS : ∀ p ∈ nw, g'.get? p.1 = some p.2 := fun p hp => e3 p (hS p hp).1 (hS p hp).2
  obtain ⟨led, hj⟩ := S.j
  have la : a.cps.toList.length = a.length := Array.length_toList
  have lb : b.cps.toList.length = b.length := Array.length_toList
  rw [la, lb] at R rbl rc
  refine goc_ok (res := res) B' k2 (Nat.le_of_eq e1) hA hd hu (e3 _ hm hmd) e2 (H.at i e) at_ hc ea eb eM eO eD eJ (S.b2j kS) (kS _ hj) (setOf_fresh (kS _ hj)) ha hb R r2 rne rbl ?_
  intro AN h' t' ans k' rest' es' nd' vs' q1 q2 q3 at' v1 v2 v3 O _
  rw [rc] at O
  exact y AN h' t' ans k' rest' es' nd' vs' (H.addAll i e q1 q2 q3) at' v1 v2 v3 O q1
-- the opcodes are remembered
theorem goc_cached {AN : Addr} {Q : Value → Shared → Prop} (B : Bs w h) (hA : AOk A d u) (hd : d + 1 < recursionLimit) (hm : h.get? mt = some (instObj 249 dm)) (hdm : h.get? dm = some (dictOf es nd)) (at_ : Att es vs c) (eO : vs[5]? = some (some (.ref AN)))
    (y : ∀ (h' : Heap) (t' : Nat), Ext h h' → Q (.ref AN) ⟨h', gs, dr, t', os⟩) : WP w A (call (.ref 217) [.ref mt]) Q ⟨h, gs, dr, t, os⟩ := by
  refine enter (vs := [.ref mt]) (ns := ns_goc) (news := []) h B (Ext.refl h) (Nat.le_refl _) (by simp) (by simp) hA (by (first|lia|omega)) ok_goc (lk_217 _) (cd_217 _) (.of_eq (by kernel_rfl!)) (by kernel_rfl!) (by kernel_rfl!) (by kernel_rfl!) ?_
  intro h1 t1 H kk
  change WP w _ (execs (bodyOf (me 8 8)) (env_goc h.objs.size)) _ _
  have hA1 := hA.deeper (envOf (Str.ofString "SequenceMatcher.get_opcodes") (scoOf (me 8 8)) h.objs.size 217 (.ref 216))
  generalize A.deeper _ = A1 at hA1 ⊢
  change Hp h h.objs.size h1 (LV ns_goc [some (.ref mt), none, none, none, none, none, none, none]) [] at H
  refine r_cons ?_
  refine r_expr ?_
  (with_reducible refine e_str ?_; intro _ _)
  refine r_cons ?_
  refine r_if ?_
  refine t_cmp ?_
  refine e_attr ?_
  (with_reducible refine ld_goc_0 ‹_› ?_)
  refine m_get B H ⟨H.F.keep _ _ hm, H.F.keep _ _ hdm, at_.s⟩ (fi_op _) (at_.get 5 rfl eO) rfl fun t2 => ?_
  refine g_go ?_
  refine e_none ?_
  refine isn_ref_none ?_
  refine t_bool ?_
  rw [if_pos rfl]
  refine r_cons ?_
  refine r_ret ?_
  refine e_attr ?_
  (with_reducible refine ld_goc_0 ‹_› ?_)
  refine m_get B H ⟨H.F.keep _ _ hm, H.F.keep _ _ hdm, at_.s⟩ (fi_op _) (at_.get 5 rfl eO) rfl fun t3 => ?_
  refine g_go ?_
  exact y h1 _ H.F.keep
theorem seqs_step {v1 v2 : Value} {Q : Value → Shared → Prop} (i : Nat) (B : Bs w g) (hA : AOk A d u) (hd : d + 3 < recursionLimit) (H : Hp g L h m news) (e : news[i]? = some (dm, dictOf es nd)) (hm : (mt, instObj 249 dm) ∈ news) (hmd : mt ≠ dm) (at_ : Att es vs c) (hc : c ≤ 600)
    (e0 : vs[0]? = some (some .none)) (e3 : vs[3]? = some (some (.bool false)))
    (e1 : vs[1]? = some (some v1)) (e2 : vs[2]? = some (some v2)) (hv1 : handedIn v1 = true) (hv2 : handedIn v2 = true) (hi1 : IsF w (.str a ta) v1) (hi2 : IsF w (.str b tb) v2) (hb : b.length ≤ 1000)
    (y : ∀ (h' : Heap) (t' : Nat) (D J PP : Addr) (es' : List DictEntry) (nd' : Nat) (nw : List (Addr × Obj)), Hp g L h' m (nw ++ news.set i (dm, dictOf es' nd')) → Att es' (vsAB vs a b ta tb D J PP) (c + 10) → Sta w nw D J b.cps.toList → Q .none ⟨h', gs, dr, t', os⟩) :
    WP w A (call (.ref 174) [.ref mt, .str a ta, .str b tb]) Q ⟨h, gs, dr, t, os⟩ := by
  obtain ⟨g', B', k2, z1, z2, z3⟩ := lift_news B H e
  refine seqs_new B' k2 (Nat.le_of_eq z1) hA hd (z3 _ hm hmd) z2 (H.at i e) at_ hc e0 e3 e1 e2 hv1 hv2 hi1 hi2 hb ?_
  intro h' t' D J PP es' nd' nw q1 q2 q3 at' S
  exact y h' t' D J PP es' nd' nw (H.addAll i e q1 q2 q3) at' S
end
noncomputable def lawB : List Stmt := loopB (nthS (bodyOf (st 12)) 6)
noncomputable def lawT : Expr := match nthS (bodyOf (st 12)) 6 with | .For t .. => t | _ => .Constant .none 0 default
theorem keep249_run (p : Program) (P : Params) (n t : Nat) : run (kfP P) fastT ⟨p, P⟩ 400 none n t (nn 2) Keeper (keeperOf (.ref 249)) = some ⟨.ok .machine, t, [], n, []⟩ := by kernel_rfl!
theorem mid2 {α : Type} (A : List α) (x y : α) (B : List α) : (A ++ x :: y :: B).Perm (x :: y :: (A ++ B)) :=
  (List.perm_middle (a := x) (l₁ := A) (l₂ := y :: B)).trans (.cons _ List.perm_middle)
section
variable {w : World} {A : Around} {gs : Array GenState} {dr : Drawn} {os : OsState} {g h h' : Heap} {L : Addr} {d u t : Nat} {m : Str → Option Value} {news nw more : List (Addr × Obj)} {mt dm D J : Addr} {es : List DictEntry} {nd c : Nat} {vs : List (Option Value)} {a b : Str} {ta tb : Tok}
theorem keep249 {Q : Keeper → Shared → Prop} {g : Heap} (B : Bs w g) (k : Ext g h) (hh : A.handled = none) (y : Q .machine ⟨h, gs, dr, t, os⟩) : WP w A (keeperOf (.ref 249)) Q ⟨h, gs, dr, t, os⟩ := by
  have e := keep249_run pw w.params h.objs.size t
  rw [← table_eq_fast] at e
  exact run_sound (s := ⟨h, gs, dr, t, os⟩) e (given_of B k) hh rfl rfl y
theorem Hp.ofMem (H : Hp g L h m more) (nd : (news.map (·.1)).Nodup) (k : ∀ p ∈ news, p ∈ more) : Hp g L h m news := ⟨H.F, fun p hp => H.N p (k p hp), nd⟩
theorem k_ne {x y : Str} {tx ty : Tok} {Q : Value → Shared → Prop} {s : Shared} (e : x.cps.toList = y.cps.toList) (z : Q (.bool false) s) : WP w A (compareOp .NotEq (.str x tx) (.str y ty)) Q s :=
  P.ne_str (by rw [e]; simpa using z)
theorem codes_few (n p q pl ml : Nat) : (dueCodes n p q pl ml).length ≤ 4 := by
  unfold dueCodes
  simp only [List.length_append]
  have h1 : ∀ (c : Prop) [Decidable c] (o : Oc), (if c then [o] else []).length ≤ 1 := fun c _ o => by split <;> simp
  have := h1 (0 < min p pl) ("equal", 0, min p pl, 0, min p pl)
  have := h1 (0 < q) ("equal", pl, pl + q, p + ml, p + ml + q)
  have := h1 (pl + q < n) ("delete", pl + q, n, p + ml + q, p + ml + q)
  simp only [List.length_cons, List.length_nil]
  (first|lia|omega)
theorem codes_word (n p q pl ml : Nat) : ∀ o ∈ dueCodes n p q pl ml, IsWord o.1 := by
  intro o ho
  unfold dueCodes at ho
  simp only [List.mem_append] at ho
  rcases ho with ((ho | ho) | ho) | ho
  · split at ho
    · simp at ho; subst ho; exact .inl rfl
    · cases ho
  · simp at ho; subst ho
    show IsWord (if _ then _ else _)
    split
    · exact .inr (.inl rfl)
    · exact .inr (.inr (.inl rfl))
  · split at ho
    · simp at ho; subst ho; exact .inl rfl
    · cases ho
  · split at ho
    · simp at ho; subst ho; exact .inr (.inr (.inr rfl))
    · cases ho
theorem short_text {x : Str} {p q : Nat} (hp : p ≤ x.length) (hq : q ≤ x.length) : (shortS x ((x.length : Int) - p - q) (p : Int) ((x.length : Int) - q)).cps.toList = short x.cps.toList (markS ((x.length : Int) - p - q)).cps.toList p q ∧
    ((Txt.slice x none (some (p : Int)) ++ markS ((x.length : Int) - p - q)) ++ Txt.slice x (some ((x.length : Int) - q)) none).cps.toList = short x.cps.toList (markS ((x.length : Int) - p - q)).cps.toList p q := by
  have ap : ∀ a b : Str, (a ++ b).cps.toList = a.cps.toList ++ b.cps.toList := fun a b => by
    show (Str.append a b).cps.toList = _
    simp [Str.append]
  have xl : x.cps.toList.length = x.length := Array.length_toList
  have s1 := sl_to (x := x) (k := p) hp
  have s2 := sl_from (x := x) (k := x.length - q) (by (first|lia|omega))
  have e2 : ((x.length - q : Nat) : Int) = (x.length : Int) - q := by (first|lia|omega)
  rw [e2] at s2
  constructor
  · unfold shortS short markS
    simp only [Array.toList_append, ap, s1, s2, xl, List.append_assoc]
  · unfold short
    rw [ap, ap, s1, s2, xl, List.append_assoc]
end
section
variable {w : World} {A : Around} {gs : Array GenState} {dr : Drawn} {os : OsState} {g h h' : Heap} {L : Addr} {d u t : Nat} {m : Str → Option Value} {news nw more : List (Addr × Obj)} {mt dm D J : Addr} {es : List DictEntry} {nd c : Nat} {vs : List (Option Value)} {a b : Str} {ta tb : Tok}
theorem ten {α : Type} {l : List α} {a0 a1 a2 a3 a6 a7 a8 a9 : α} (hl : l.length = 10) (h1 : l.take 4 = [a0, a1, a2, a3]) (h2 : l.drop 6 = [a6, a7, a8, a9]) : ∃ a4 a5, l = [a0, a1, a2, a3, a4, a5, a6, a7, a8, a9] := by
  have e : l = l.take 4 ++ ((l.drop 4).take 2 ++ (l.drop 4).drop 2) := by rw [List.take_append_drop, List.take_append_drop]
  rw [List.drop_drop, h1, h2] at e
  have e3 : ((l.drop 4).take 2).length = 2 := by simp [hl]
  generalize (l.drop 4).take 2 = m at e e3
  match m, e3 with
  | [a4, a5], _ => exact ⟨a4, a5, e⟩
noncomputable def turnedE : Expr := match nthS lawB 6 with | .If (.Compare _ _ (r :: _) _) _ _ _ => r | _ => .Constant .none 0 default
-- what the body needs to know of the text and the sizes
structure PlainOk (x : Str) (p q : Nat) : Prop where
  small : x.length - p - q ≤ 12 → Goes x.cps.toList x.cps.toList [("equal", 0, x.length, 0, x.length)]
  big : 12 < x.length - p - q → ∀ y : Str, y.cps.toList = short x.cps.toList (markS ((x.length : Int) - p - q)).cps.toList p q → y ≠ x ∧ y.length ≤ 1000 ∧
    Goes x.cps.toList y.cps.toList (dueCodes x.length p q (placeOf x p q) (markS ((x.length : Int) - p - q)).length) ∧
    Goes y.cps.toList x.cps.toList ((dueCodes x.length p q (placeOf x p q) (markS ((x.length : Int) - p - q)).length).map turnO)
set_option maxHeartbeats 4000000 in
theorem body_ok {x : Str} {tx tp tq : Tok} {p q : Nat} {v0 v1 v2 v3 v5 v6 v7 v10 v11 v12 v13 : Option Value} {P : Flow → Shared → Prop} (B : Bs w g) (hA : AOk A d u) (hd : d + 10 < recursionLimit) (hu : u + 7 < cLine)
    (H : Hp g L h (LV ns_law [v0, v1, v2, v3, some (.str x tx), v5, v6, v7, some (.int (p : Nat) tp), some (.int (q : Nat) tq), v10, v11, v12, v13]) news)
    (hx : 22 ≤ x.length) (hx2 : x.length ≤ 1000) (hp : p ≤ 8) (hq : q ≤ 8) (ht0 : tx ≠ 0) (ht : tx < t) (PL : PlainOk x p q)
    (y : ∀ (h' : Heap) (t' : Nat) (v10 v11 v12 v13 : Option Value), Hp g L h' (LV ns_law [v0, v1, v2, v3, some (.str x tx), v5, v6, v7, some (.int (p : Nat) tp), some (.int (q : Nat) tq), v10, v11, v12, v13]) news → P .next ⟨h', gs, dr, t', os⟩) :
    WP w A (execs lawB (env_law L)) P ⟨h, gs, dr, t, os⟩ := by
  have nd0 := H.nd
  refine r_consT ?_
  refine r_tup ?_
  refine e_call ?_
  (with_reducible refine gl_law__law_due ‹_› ‹_› ?_)
  refine call_rule ?_
  refine sp_cons ?_
  (with_reducible refine ld_law_4 ‹_› ?_)
  refine sp_cons ?_
  (with_reducible refine ld_law_8 ‹_› ?_)
  refine sp_cons ?_
  (with_reducible refine ld_law_9 ‹_› ?_)
  refine sp_nil ?_
  refine keep_fn (H.F.keep _ _ (B.K _ _ (lk_258 _))) rfl ?_
  refine due_ok (B.keeps H.F.keep) hA (by (first|lia|omega)) hx hx2 hp hq ?_
  intro h1 t1 T CL S ts vsC kC restC codes k1 n1 OC cases1
  have H1 := H.addNw k1 n1
  refine a_tupK [(Str.ofString "short", _), (Str.ofString "codes", _)] hA.hh H1 (H1.at 0 rfl) (by with_unfolding_all rfl) (by with_unfolding_all rfl) (by with_unfolding_all rfl) fun h2 k2 H2 => ?_
  dsimp only [List.map]
  refine stn_cons ?_
  (with_reducible refine st_law_10 ‹_› ?_); intro h3 t3 H3
  refine stn_cons ?_
  (with_reducible refine st_law_11 ‹_› ?_); intro h4 t4 H4
  refine stn_nil ?_
  intro ht4
  dsimp only at ht4
  clear H1 H2 H3
  -- the middle
  have mid : ∀ (h5 : Heap) (t5 : Nat) (Y : Str) (ty : Tok), Hp g L h5 (LV ns_law [v0, v1, v2, v3, some (.str x tx), v5, v6, v7, some (.int (p : Nat) tp), some (.int (q : Nat) tq), some (.str S ts), some (.ref CL), some (.str Y ty), v13]) ((T, tObj [.str S ts, .ref CL]) :: (CL, lObj vsC.toArray kC) :: restC ++ news) →
      Y.cps.toList = S.cps.toList → Y.length ≤ 1000 → Goes x.cps.toList Y.cps.toList codes → (Y = x ∧ ty = tx ∧ codes = [("equal", 0, x.length, 0, x.length)] ∨ (Y ≠ x ∧ tx < ty ∧ Goes Y.cps.toList x.cps.toList (codes.map turnO))) → (∀ o ∈ codes, IsWord o.1) → codes.length ≤ 4 → codes.map turnO = codes ∨ True →
      WP w A (execs (lawB.drop 2) (env_law L)) P ⟨h5, gs, dr, t5, os⟩ := by
    intro h5 t5 Y ty H5 eY hY G1 cs hw h4c _
    refine r_cons ?_
    refine r_if ?_
    refine t_cmp ?_
    (with_reducible refine ld_law_12 ‹_› ?_)
    (with_reducible refine ld_law_10 ‹_› ?_)
    refine k_ne eY ?_
    refine t_bool ?_
    rw [if_neg (by decide)]
    refine r_nil ?_
    refine r_cons ?_
    refine r_assign ?_
    refine e_call ?_
    (with_reducible refine gl_law_SequenceMatcher ‹_› ‹_› ?_)
    refine call_rule ?_
    refine sp_cons ?_
    refine e_none ?_
    refine sp_cons ?_
    (with_reducible refine ld_law_4 ‹_› ?_)
    refine sp_cons ?_
    (with_reducible refine ld_law_12 ‹_› ?_)
    refine sp_cons ?_
    refine e_bool ?_
    refine sp_nil ?_
    refine keep249 B H5.F.keep hA.hh ?_
    refine sm_new B hA (by (first|lia|omega)) H5 hY ?_
    intro mt dm h6 t6 D J PP es6 nd6 nw6 H6 at6 S6
    (with_reducible refine st_law_13 ‹_› ?_); intro h7 t7 H7
    have H7 := H7.perm ((mid2 _ _ _ _).trans (.swap _ _ _))
    have hmd : mt ≠ dm := H7.ne2 1 0 (by decide) rfl rfl
    have hS7 : ∀ p ∈ nw6, p ∈ (dm, dictOf es6 nd6) :: (mt, instObj 249 dm) :: (nw6 ++ ((T, tObj [.str S ts, .ref CL]) :: (CL, lObj vsC.toArray kC) :: restC ++ news)) ∧ p.1 ≠ dm := fun p hp =>
      ⟨by simp [hp], fun z => (List.nodup_cons.mp H7.nd).1 (List.mem_map.mpr ⟨p, by simp [hp], z⟩)⟩
    refine r_cons ?_
    refine r_if ?_
    refine t_cmp ?_
    refine e_meth ?_
    (with_reducible refine ld_law_13 ‹_› ?_)
    refine m_def B H7 ⟨H7.at 1 rfl, H7.at 0 rfl, at6.s⟩ (fm_goc _) (fn_goc _) (by rw [at6.l]; exact LV_none (by decide)) ?_
    refine call_self0 ?_
    refine keep_fn (H7.F.keep _ _ (B.K _ _ (lk_217 _))) rfl ?_
    refine goc_step (a := x) (b := Y) (mt := mt) 0 B hA (by (first|lia|omega)) hu H7 rfl (.tail _ (.head _)) hmd at6 (by (first|lia|omega)) rfl rfl rfl rfl rfl rfl S6 hS7 hx2 hY G1 ?_
    intro AN h8 t8 ans8 k8 rest8 es8 nd8 vs8 H8 at8 e8a e8b e8c O8 _
    dsimp only [List.set] at H8
    have H8 := H8.perm (mid2 _ _ _ _)
    (with_reducible refine ld_law_11 ‹_› ?_)
    refine ne_ops (vs1 := ans8) (vs2 := vsC) (codes := codes) (r1 := rest8) (r2 := restC) (lo_isList (k := k8) (H8.mem (by simp))) (lo_isList (k := kC) (H8.mem (x := CL) (by simp))) (fun p hp => H8.mem (x := p.1) (by simp [hp])) (fun p hp => H8.mem (x := p.1) (by simp [hp])) O8 OC (by have := hA.hu; (first|lia|omega)) ?_
    refine t_bool ?_
    rw [if_neg (by decide)]
    refine r_nil ?_
    obtain ⟨w4, w5, rfl⟩ := ten (at8.len.symm) e8a e8b
    have hl8 : look es8 (Str.ofString "set_seqs") = none := by rw [at8.l]; exact LV_none (by decide)
    refine r_cons ?_
    refine r_expr ?_
    refine e_meth ?_
    (with_reducible refine ld_law_13 ‹_› ?_)
    refine m_def B H8 ⟨H8.at 1 rfl, H8.at 0 rfl, at8.s⟩ (fm_seqs _) (fn_seqs _) hl8 ?_
    refine call_self ?_
    refine sp_cons ?_
    (with_reducible refine ld_law_12 ‹_› ?_)
    refine sp_cons ?_
    (with_reducible refine ld_law_4 ‹_› ?_)
    refine sp_nil ?_
    refine keep_fn (H8.F.keep _ _ (B.K _ _ (lk_174 _))) rfl ?_
    -- the last test
    have last : ∀ (h9 : Heap) (t9 : Nat) (M : List (Addr × Obj)) (A2 : Addr) (ans : List Value) (k9 : Nat) (r9 : List (Addr × Obj)), Hp g L h9 (LV ns_law [v0, v1, v2, v3, some (.str x tx), v5, v6, v7, some (.int (p : Nat) tp), some (.int (q : Nat) tq), some (.str S ts), some (.ref CL), some (.str Y ty), some (.ref mt)]) M →
        (A2, lObj ans.toArray k9) ∈ M → (∀ p ∈ r9, p ∈ M) → Ops r9 ans (codes.map turnO) → (CL, lObj vsC.toArray kC) ∈ M → (∀ p ∈ restC, p ∈ M) → (∀ p ∈ news, p ∈ M) →
        ∀ Q' : Value → Shared → Prop, (∀ h' t', Hp g L h' (LV ns_law [v0, v1, v2, v3, some (.str x tx), v5, v6, v7, some (.int (p : Nat) tp), some (.int (q : Nat) tq), some (.str S ts), some (.ref CL), some (.str Y ty), some (.ref mt)]) news → Q' (.bool false) ⟨h', gs, dr, t', os⟩) →
        WP w A (eval turnedE (env_law L)) (fun b s₂ => WP w A (compareOp .NotEq (.ref A2) b) Q' s₂) ⟨h9, gs, dr, t9, os⟩ := by
      intro h9 t9 M A2 ans k9 r9 H9 m1 m2 O9 m3 m4 m5 Q' yQ
      refine e_call ?_
      (with_reducible refine gl_law__law_turned ‹_› ‹_› ?_)
      refine call_rule ?_
      refine sp_cons ?_
      (with_reducible refine ld_law_11 ‹_› ?_)
      refine sp_nil ?_
      refine keep_fn (H9.F.keep _ _ (B.K _ _ (lk_263 _))) rfl ?_
      refine turned_ok (vs := vsC) (k := kC) (codes := codes) (r0 := restC) (B.keeps H9.F.keep) hA (by (first|lia|omega)) (H9.mem m3) (fun p hp => H9.mem (m4 p hp)) OC hw (by (first|lia|omega)) ?_
      intro h10 t10 D oD ys rest10 k10 n10 hD O10
      have H10 := H9.addNw k10 n10
      refine ne_ops (vs1 := ans) (vs2 := ys) (codes := codes.map turnO) (r1 := r9) (r2 := rest10) (lo_isList (k := k9) (H10.mem (x := A2) (by simp [m1]))) (hD.list (H10.at 0 rfl)) (fun p hp => H10.mem (x := p.1) (by have := m2 p hp; simp [this])) (fun p hp => H10.mem (x := p.1) (by simp [hp])) O9 O10 (by have := hA.hu; (first|lia|omega)) ?_
      exact yQ h10 _ (H10.ofMem nd0 (fun p hp => by have := m5 p hp; simp [this]))
    have fin : ∀ (h9 : Heap) (t9 : Nat), Hp g L h9 (LV ns_law [v0, v1, v2, v3, some (.str x tx), v5, v6, v7, some (.int (p : Nat) tp), some (.int (q : Nat) tq), some (.str S ts), some (.ref CL), some (.str Y ty), some (.ref mt)]) news →
        WP w A (truthy (.bool false)) (fun b s₂ => if b = true then WP w A (execs (ifB (nthS lawB 6)) (env_law L)) (Seq (fun s' => WP w A (execs [] (env_law L)) P s') P) s₂ else WP w A (execs [] (env_law L)) (Seq (fun s' => WP w A (execs [] (env_law L)) P s') P) s₂) ⟨h9, gs, dr, t9, os⟩ := by
      intro h9 t9 H9
      refine t_bool ?_
      rw [if_neg (by decide)]
      exact r_nil (r_nilQ (y h9 _ _ _ _ _ H9))
    rcases cs with ⟨rfl, rfl, rfl⟩ | ⟨hne, hlt, G2⟩
    · have iT : IsT w (.str Y ty) (.str Y ty) := isT_str ht0
      refine seqs_same (B.keeps H8.F.keep) hA (by (first|lia|omega)) (H8.at 1 rfl) (H8.at 0 rfl) at8 rfl rfl rfl rfl iT iT ?_
      intro h9 t9 k9
      have H9 := H8.ext k9
      refine r_cons ?_
      refine r_if ?_
      refine t_cmp ?_
      refine e_meth ?_
      (with_reducible refine ld_law_13 ‹_› ?_)
      refine m_def B H9 ⟨H9.at 1 rfl, H9.at 0 rfl, at8.s⟩ (fm_goc _) (fn_goc _) (by rw [at8.l]; exact LV_none (by decide)) ?_
      refine call_self0 ?_
      refine keep_fn (H9.F.keep _ _ (B.K _ _ (lk_217 _))) rfl ?_
      refine goc_cached (B.keeps H9.F.keep) hA (by (first|lia|omega)) (H9.at 1 rfl) (H9.at 0 rfl) at8 e8c fun h10 t10 k10 => ?_
      have H10 := H9.ext k10
      refine last h10 _ _ AN ans8 k8 rest8 H10 (by simp) (fun p hp => by simp [hp]) O8 (by simp) (fun p hp => by simp [hp]) (fun p hp => by simp [hp]) _ fun h11 t11 H11 => ?_
      exact fin h11 _ H11
    · have i1 : IsF w (.str Y ty) (.str x tx) := isF_str (Nat.ne_of_gt (Nat.lt_of_le_of_lt (Nat.zero_le _) hlt)) ht0 (Nat.ne_of_gt hlt) hne
      have i2 : IsF w (.str x tx) (.str Y ty) := isF_str ht0 (Nat.ne_of_gt (Nat.lt_of_le_of_lt (Nat.zero_le _) hlt)) (Nat.ne_of_lt hlt) (Ne.symm hne)
      refine seqs_step 0 B hA (by (first|lia|omega)) H8 rfl (.tail _ (.head _)) hmd at8 (by (first|lia|omega)) rfl rfl rfl rfl rfl rfl i1 i2 hx2 ?_
      intro h9 t9 D9 J9 PP9 es9 nd9 nw9 H9 at9 S9
      dsimp only [List.set] at H9 at9
      have H9 := H9.perm (mid2 _ _ _ _)
      have hS9 : ∀ p ∈ nw9, p ∈ (dm, dictOf es9 nd9) :: (mt, instObj 249 dm) :: (nw9 ++ ((AN, lObj ans8.toArray k8) :: rest8 ++ (nw6 ++ ((T, tObj [.str S ts, .ref CL]) :: (CL, lObj vsC.toArray kC) :: restC ++ news)))) ∧ p.1 ≠ dm := fun p hp =>
        ⟨by simp [hp], fun z => (List.nodup_cons.mp H9.nd).1 (List.mem_map.mpr ⟨p, by simp [hp], z⟩)⟩
      refine r_cons ?_
      refine r_if ?_
      refine t_cmp ?_
      refine e_meth ?_
      (with_reducible refine ld_law_13 ‹_› ?_)
      refine m_def B H9 ⟨H9.at 1 rfl, H9.at 0 rfl, at9.s⟩ (fm_goc _) (fn_goc _) (by rw [at9.l]; exact LV_none (by decide)) ?_
      refine call_self0 ?_
      refine keep_fn (H9.F.keep _ _ (B.K _ _ (lk_217 _))) rfl ?_
      refine goc_step (a := Y) (b := x) (mt := mt) 0 B hA (by (first|lia|omega)) hu H9 rfl (.tail _ (.head _)) hmd at9 (by (first|lia|omega)) rfl rfl rfl rfl rfl rfl S9 hS9 hY hx2 G2 ?_
      intro A2 h10 t10 ans10 k10 rest10 es10 nd10 vs10 H10 at10 e10a e10b e10c O10 _
      dsimp only [List.set] at H10
      refine last h10 _ _ A2 ans10 k10 rest10 H10 (by simp) (fun p hp => by simp [hp]) O10 (by simp) (fun p hp => by simp [hp]) (fun p hp => by simp [hp]) _ fun h11 t11 H11 => ?_
      exact fin h11 _ H11
  refine r_cons ?_
  refine r_assign ?_
  refine e_call ?_
  (with_reducible refine gl_law__shorten ‹_› ‹_› ?_)
  refine call_rule ?_
  refine sp_cons ?_
  (with_reducible refine ld_law_4 ‹_› ?_)
  refine sp_cons ?_
  (with_reducible refine ld_law_8 ‹_› ?_)
  refine sp_cons ?_
  (with_reducible refine ld_law_9 ‹_› ?_)
  refine sp_nil ?_
  refine keep_fn (H4.F.keep _ _ (B.K _ _ (lk_28 _))) rfl ?_
  refine shorten_ok2 (B.keeps H4.F.keep) hA (by (first|lia|omega)) hx2 (by (first|lia|omega)) (by (first|lia|omega)) ?_ ?_
  · intro hc h5 t5 tv htv k5
    have H5 := H4.ext k5
    (with_reducible refine st_law_12 ‹_› ?_); intro h6 t6 H6
    rcases cases1 with ⟨c1, -, -⟩ | ⟨c1, rfl, rfl⟩
    · (first|lia|omega)
    obtain ⟨s1, s2⟩ := short_text (x := x) (p := p) (q := q) (by (first|lia|omega)) (by (first|lia|omega))
    obtain ⟨yne, yl, G1, G2⟩ := PL.big c1 _ s1
    exact mid h6 _ _ tv H6 (s1.trans s2.symm) yl G1 (.inr ⟨yne, Nat.lt_trans (Nat.lt_of_lt_of_le ht ht4) htv, G2⟩) (codes_word _ _ _ _ _) (codes_few _ _ _ _ _) (.inr trivial)
  · intro hc h5 t5 k5
    have H5 := H4.ext k5
    (with_reducible refine st_law_12 ‹_› ?_); intro h6 t6 H6
    rcases cases1 with ⟨c1, rfl, rfl⟩ | ⟨c1, -, -⟩
    · exact mid h6 _ _ tx H6 rfl hx2 (PL.small c1) (.inl ⟨rfl, rfl, rfl⟩) (fun o ho => by simp at ho; subst ho; exact .inl rfl) (by simp) (.inr trivial)
    · (first|lia|omega)
end
noncomputable def MP (gs : Array GenState) (dr : Drawn) (os : OsState) (g : Heap) (L C D I ax : Addr) (oL : Obj) (news : List (Addr × Obj)) (vs : List Value) (F : Value → Value → Prop) (n : Nat) (s : Shared) : Prop :=
  ∃ (h : Heap) (t j : Nat) (ys : List Value) (oD oI : Obj) (mC : Str → Option Value), s = ⟨h, gs, dr, t, os⟩ ∧ n = vs.length - j ∧ j ≤ vs.length ∧ Hp g C h mC ((L, oL) :: (D, oD) :: (I, oI) :: news) ∧ IsL oD ys.toArray ∧ IsLI oI ax j ∧ Paired F (vs.take j) ys
section
variable {w : World} {A : Around} {gs : Array GenState} {dr : Drawn} {os : OsState} {g h h' : Heap} {L C I D : Addr} {d u t : Nat} {m mC : Str → Option Value} {news nw more : List (Addr × Obj)} {pos : Pos} {env : Env}
theorem map_loop {elt iter : Expr} {x : Str} {px : Pos} {scope : Scope} {cl : List (Str × Addr)} {ax : Addr} {oL : Obj} {vs : List Value} {F : Value → Value → Prop} {R : Result → Shared → Prop} {s : Shared} (hA : AOk A d u) (hk : scope.kind = .function) (hx : scope.names.lookup x = some .local)
    (hax : ∀ z : Heap, (∀ p ∈ news, z.get? p.1 = some p.2) → Ext g z → z.IsList ax vs.toArray) (hlen : vs.length ≤ 1000)
    (he : ∀ v h t mC more, v ∈ vs → Hp g C h mC more → mC x = some v → ∀ Q : Value → Shared → Prop, (∀ h' t' y, F v y → Hp g C h' mC more → Q y ⟨h', gs, dr, t', os⟩) → WP w A (eval elt (compEnvC scope cl C env)) Q ⟨h, gs, dr, t, os⟩)
    (I0 : MP gs dr os g L C D I ax oL news vs F vs.length s)
    (y : ∀ (h : Heap) (t : Nat) (ys : List Value) (oD : Obj) (mC : Str → Option Value), Hp g C h mC ((L, oL) :: (D, oD) :: news) → IsL oD ys.toArray → Paired F vs ys → R (.ok .next) ⟨h, gs, dr, t, os⟩) :
    CompK w A (compEnvC scope cl C env) elt (.Name x px) iter [] scope pos I D R s := by
  refine comp_inv (MP gs dr os g L C D I ax oL news vs F) (fun n s hI => ?_) _ I0
  obtain ⟨h, t, j, ys, oD, oI, mC, rfl, rfl, hj, H, hD, hI, hF⟩ := hI
  have hl := hax h (fun p hp => H.mem (x := p.1) (by simp [hp])) H.F.keep
  have hyl := hF.length
  rw [List.length_take] at hyl
  by_cases hlt : j < vs.length
  · refine nx_list 2 H rfl hI hl (x := vs[j]) (by simp [hlt]) fun h1 oI' hI' H1 => ?_
    dsimp only [List.set] at H1 ⊢
    refine go_name ?_
    refine a_name ?_
    refine cx_set H1 hk hx fun h2 t2 H2 => ?_
    refine ts_none ?_
    rw [if_pos rfl]
    refine he vs[j] h2 t2 _ _ (List.getElem_mem hlt) H2 (if_pos rfl) _ fun h3 t3 yv hy H3 => ?_
    refine c_append 1 H3 rfl hD (by simp; (first|lia|omega)) fun h4 oD' hD' H4 => ?_
    dsimp only [List.set] at H4
    rw [List.push_toArray] at hD'
    refine ⟨vs.length - (j + 1), by (first|lia|omega), h4, _, j + 1, ys ++ [yv], oD', oI', _, rfl, rfl, by (first|lia|omega), H4, hD', hI', ?_⟩
    rw [List.take_add_one, List.getElem?_eq_getElem hlt]
    exact hF.snoc hy
  · have : j = vs.length := by (first|lia|omega)
    subst this
    refine nx_list_end 2 hA.hh H rfl hI hl (by simp) fun h3 H3 => ?_
    dsimp only [List.eraseIdx] at H3 ⊢
    rw [List.take_length] at hF
    exact y h3 _ ys oD mC H3 hD hF
-- a comprehension of one plain name over a list
theorem e_map {elt iter : Expr} {x : Str} {px : Pos} {scope : Scope} {cl : List (Str × Addr)} {F : Value → Value → Prop} {Q : Value → Shared → Prop} (hA : AOk A d u) (H0 : Hp g L h m more)
    (hclos : closureFor scope env = pure cl) (hcell : (scope.names.all fun y => y.2 != .cell) = true) (hk : scope.kind = .function) (hnames : (scope.names.all fun y => y.2 != .local || (match scope.names.lookup y.1 with | some .local => true | _ => false)) = true) (hx : scope.names.lookup x = some .local)
    (it : WP w A (eval iter env) (fun v s₁ => ∃ ax h₁ t₁ news vs, v = .ref ax ∧ s₁ = ⟨h₁, gs, dr, t₁, os⟩ ∧ Hp g L h₁ m news ∧ (∀ z : Heap, (∀ p ∈ news, z.get? p.1 = some p.2) → Ext g z → z.IsList ax vs.toArray) ∧ vs.length ≤ 1000 ∧
      (∀ C v h t mC more, v ∈ vs → Hp g C h mC more → mC x = some v → ∀ Q : Value → Shared → Prop, (∀ h' t' y, F v y → Hp g C h' mC more → Q y ⟨h', gs, dr, t', os⟩) → WP w A (eval elt (compEnvC scope cl C env)) Q ⟨h, gs, dr, t, os⟩) ∧
      ∀ D h' t' ys oD, Hp g L h' m ((D, oD) :: news) → IsL oD ys.toArray → Paired F vs ys → Q (.ref D) ⟨h', gs, dr, t', os⟩) ⟨h, gs, dr, t, os⟩)
    (hs : ∀ x, foldedSetIterable iter env x = pure x := by intro _; with_unfolding_all rfl) : WP w A (eval (.ListComp elt [⟨.Name x px, iter, [], 0⟩] scope pos) env) Q ⟨h, gs, dr, t, os⟩ := by
  have nmf : ∀ y ∈ scope.names, y.2 = .local → scope.names.lookup y.1 = some .local := by
    intro y hy e
    have := List.all_eq_true.mp hnames y hy
    rw [e] at this
    revert this
    split
    · rename_i q; intro _; exact q
    · intro z; cases z
  rw [eval_ListComp]
  refine wpAny_comprehension_free (use := none) rfl hs hclos hk nmf (wpAny_mono it (fun xv s₁ h₁ => ?_) fun _ _ e => e)
  obtain ⟨ax, h1, t1, news, vs, rfl, rfl, H, hax, hlen, he, y⟩ := h₁
  refine it_list H (hax h1 (fun p hp => H.mem hp) H.F.keep) fun I h2 oI hI H2 => ?_
  have H3 := H2.push (lObj #[] 0)
  obtain ⟨oL, es, ep, hL, r⟩ := id H3.F.ns
  refine wpAny_newObj_type (wpAny_newFunctionEnv (by intro y hy; simpa using List.all_eq_true.mp hcell y hy) (by intro y hy; simp at hy) (fun h₁ hns₁ hsb₁ => ?_) hk)
  dsimp only at hns₁ hsb₁ ⊢
  have k : Ext (h2.push (lObj #[] 0)) h₁ := fun b o e => hsb₁.extBut b o (Nat.ne_of_lt (Heap.lt_size e)) (Heap.get?_push_of_some _ e)
  have H4 := H3.inner hL (Nat.le_refl _) hns₁ k
  have K : CompK w A (compEnvC scope cl (h2.push (lObj #[] 0)).objs.size env) elt (.Name x px) iter [] scope pos I h2.objs.size (CompR w A Q h2.objs.size (h2.push (lObj #[] 0)).objs.size) ⟨h₁, gs, dr, t1 + ([] : List (Str × Value)).length, os⟩ := by
    refine map_loop (L := L) (oL := oL) (F := F) hA hk hx hax hlen (he _) ⟨h₁, _, 0, [], lObj #[] 0, oI, _, rfl, rfl, Nat.zero_le _, H4, lIsL, hI, .nil⟩ fun h5 t5 ys oD mC H5 hD hF => ?_
    exact comp_end H5 (fun x e => ⟨oL, es, ep, e, r⟩) H.F.above fun h6 H6 => y _ h6 _ ys oD H6 hD hF
  exact codeAny_compStart_list K (wpAny_mono (self_li hI _ _ (H4.at 2 rfl) K) (fun _ _ z => z) fun _ _ e => e.elim)
end
noncomputable def binR (e : Expr) : Expr := match e with | .BinOp _ _ r _ => r | _ => e
noncomputable def lc1 : Expr := arg0 (rhs (nthS (bodyOf (st 12)) 1))
noncomputable def lc2 : Expr := arg0 (rhs (nthS (bodyOf (st 12)) 2))
noncomputable def lc3 : Expr := arg0 (binR (rhs (nthS (bodyOf (st 12)) 4)))
theorem cl_1 (L : Addr) : closureFor (lcSc lc1 (scoOf (st 12))) (env_law L) = pure [] := by kernel_rfl!
theorem cl_2 (L : Addr) : closureFor (lcSc lc2 (scoOf (st 12))) (env_law L) = pure [] := by kernel_rfl!
theorem cl_3 (L : Addr) : closureFor (lcSc lc3 (scoOf (st 12))) (env_law L) = pure [] := by kernel_rfl!
-- a sign of the alphabet
noncomputable def Sg (v y : Value) : Prop := ∃ c tk, y = .str ⟨#[c]⟩ tk ∧ (c = 117 ∨ c = 118 ∨ c = 119)
noncomputable def Sm (v y : Value) : Prop := ∃ n : Nat, ∃ tk, y = .int n tk ∧ n < 1000
section
variable {w : World} {A : Around} {gs : Array GenState} {dr : Drawn} {os : OsState} {g h h' : Heap} {L C I D : Addr} {d u t : Nat} {m mC : Str → Option Value} {news nw more : List (Addr × Obj)} {pos : Pos} {env : Env}
theorem o_mod {a b : Int} {ta tb : Tok} {Q : Value → Shared → Prop} (hb : b ≠ 0) (y : ∀ tv t', Q (.int (a.fmod b) tv) ⟨h, gs, dr, t', os⟩) : WP w A (binaryOp .Mod (.int a ta) (.int b tb)) Q ⟨h, gs, dr, t, os⟩ := PyProof.Rows.mod_int hb (y _ _)
-- a slice of a list of ints
theorem e_slice {value : Expr} {lower upper step : Option Expr} {p : Pos} {Q : Value → Shared → Prop} {l : Addr} {vs : List Value} {ns : List Int} {lo hi st : Option Int} (H : Hp g L h m news) (hx : ∀ (t : Nat) (Q' : Value → Shared → Prop), (∀ t', Q' (.ref l) ⟨h, gs, dr, t', os⟩) → WP w A (eval value env) Q' ⟨h, gs, dr, t, os⟩)
    (hl : h.IsList l vs.toArray) (hv : IntsAre vs ns) (hn : ns.length ≤ 1000) (h0 : st ≠ some 0)
    (h1 : ∀ (t : Nat) (Q' : Value → Shared → Prop), (∀ v t', IsPart v lo → Q' v ⟨h, gs, dr, t', os⟩) → WP w A (evalPart lower env) Q' ⟨h, gs, dr, t, os⟩)
    (h2 : ∀ (t : Nat) (Q' : Value → Shared → Prop), (∀ v t', IsPart v hi → Q' v ⟨h, gs, dr, t', os⟩) → WP w A (evalPart upper env) Q' ⟨h, gs, dr, t, os⟩)
    (h3 : ∀ (t : Nat) (Q' : Value → Shared → Prop), (∀ v t', IsPart v st → Q' v ⟨h, gs, dr, t', os⟩) → WP w A (evalPart step env) Q' ⟨h, gs, dr, t, os⟩)
    (y : ∀ a h' t' (vs' : List Value) (ns' : List Int) o, IsL o vs'.toArray → IntsAre vs' ns' → ns'.length ≤ ns.length → Hp g L h' m ((a, o) :: news) → Q (.ref a) ⟨h', gs, dr, t', os⟩)
    (hs : ∀ s, subscripted (.Slice lower upper step p) false (.ref l) (.ref s) = operate (match step with | none => [.ref s, .ref l] | some _ => [.ref l, .ref s]) (getItem (.ref l) (.ref s)) := by intro s; with_unfolding_all rfl)
    (ht : ∀ r, letTemporaryGo value (.ref l) r = pure () := by intro _; with_unfolding_all rfl) :
    WP w A (eval (.Subscript value (.Slice lower upper step p) pos) env) Q ⟨h, gs, dr, t, os⟩ := by
  refine e_sub (hx _ _ fun t1 => ?_)
  refine wpAny_Slice (h1 _ _ fun v1 t2 p1 => h2 _ _ fun v2 t3 p2 => h3 _ _ fun v3 t4 p3 => ?_)
  refine slice_list3 (s := ⟨h, gs, dr, t4, os⟩) H.F H.N hl p1 p2 p3 h0 (fun h' F N => ?_) (hs _) ht (by rw [sizeLine_eq]; simp [hv.length]; (first|lia|omega))
  have key := hv.pick lo hi st
  refine y _ h' t4 _ _ _ ⟨rfl, 0, ?_⟩ key (length_pickNums_le hv lo hi st) ⟨F, N, ?_⟩
  · show Data.seq _ 0 = Data.seq _ 0
    rw [Array.toArray_toList]
  · refine List.nodup_cons.mpr ⟨fun q => ?_, H.nd⟩
    obtain ⟨p, hp, e⟩ := List.mem_map.mp q
    have := Heap.lt_size (H.N p hp).1
    rw [e] at this
    exact absurd this (by simp)
end
noncomputable def SgC (c : Nat) : Prop := c = 117 ∨ c = 118 ∨ c = 119
theorem app_list (a b : Str) : (a ++ b).cps.toList = a.cps.toList ++ b.cps.toList := by
  show (Str.append a b).cps.toList = _
  simp [Str.append]
theorem join_sg {e : Str} (he : e.cps = #[]) : ∀ ys : List Str, (∀ y ∈ ys, ∃ c, y = ⟨#[c]⟩ ∧ SgC c) → (∀ c ∈ (Str.join e ys).cps.toList, SgC c) ∧ (Str.join e ys).cps.toList.length = ys.length
  | [], _ => ⟨fun c hc => by simp [Str.join, Str.empty] at hc, by simp [Str.join, Str.empty]⟩
  | [y], h => by
    obtain ⟨c, rfl, hc⟩ := h y (.head _)
    exact ⟨fun d hd => by simp [Str.join] at hd; subst hd; exact hc, by simp [Str.join]⟩
  | y :: z :: r, h => by
    obtain ⟨c, rfl, hc⟩ := h y (.head _)
    have ih := join_sg he (z :: r) fun q hq => h q (.tail _ hq)
    have e1 : (Str.join e (⟨#[c]⟩ :: z :: r)).cps.toList = c :: (Str.join e (z :: r)).cps.toList := by
      show ((⟨#[c]⟩ ++ e ++ Str.join e (z :: r) : Str)).cps.toList = _
      rw [app_list, app_list, he]; simp
    rw [e1]
    refine ⟨fun d hd => ?_, by simp; have := ih.2; simpa using this⟩
    rcases List.mem_cons.mp hd with rfl | hd
    · exact hc
    · exact ih.1 d hd
theorem ints_mem : ∀ {vs : List Value} {ns : List Int} {v : Value}, IntsAre vs ns → v ∈ vs → ∃ n tk, v = .int n tk
  | _, _, v, .nil, h => by cases h
  | _, _, v, .cons n tk r, h => by
    rcases List.mem_cons.mp h with rfl | h
    · exact ⟨n, tk, rfl⟩
    · exact ints_mem r h
theorem strs_of : ∀ {vs ys : List Value}, Paired Sg vs ys → ∃ zs : List Str, StrsAre ys zs ∧ (∀ z ∈ zs, ∃ c, z = ⟨#[c]⟩ ∧ SgC c) ∧ zs.length = vs.length
  | _, _, .nil => ⟨[], .nil, (fun _ h => nomatch h), rfl⟩
  | _, _, .cons h r => by
    obtain ⟨c, tk, rfl, hc⟩ := h
    obtain ⟨zs, h1, h2, h3⟩ := strs_of r
    refine ⟨⟨#[c]⟩ :: zs, .cons _ _ h1, fun z hz => ?_, by simp [h3]⟩
    rcases List.mem_cons.mp hz with rfl | hz
    · exact ⟨c, rfl, hc⟩
    · exact h2 z hz
section
variable {w : World} {A : Around} {gs : Array GenState} {dr : Drawn} {os : OsState} {g h h' : Heap} {L C I D : Addr} {d u t : Nat} {m mC : Str → Option Value} {news nw more : List (Addr × Obj)} {pos : Pos} {env : Env}
theorem e_strX {y : Str} {k : Nat} {Q : Value → Shared → Prop} (x : Q (.str y t) ⟨h, gs, dr, t + 1, os⟩) : WP w A (eval (.Constant (.str y) k pos) env) Q ⟨h, gs, dr, t, os⟩ := by
  show wpAny _ _ (mkText y) _ _ _
  exact wpAny_mkText x
theorem m_join {x : Str} {tk : Tok} {pl : Sem Bool} {Q : Value × List Value → Shared → Prop} {s : Shared} (y : Q (.builtin "str.join", [.str x tk]) s) : WP w A (getMethod (.str x tk) (Str.ofString "join") pl) Q s :=
  getMethod_builtin (typeIs_str _ _ _) F.plainAttrs_str F.slot_str_join F.type_str_join (fun a ea => by cases ea) y
theorem p_int {i : Int} {kk : Nat} {pp : Pos} {Q : Value → Shared → Prop} (y : ∀ v t', IsPart v (some i) → Q v ⟨h, gs, dr, t', os⟩) : WP w A (evalPart (some (.Constant (.int i) kk pp)) env) Q ⟨h, gs, dr, t, os⟩ :=
  e_int (k := kk) (pos := pp) fun tv t' => y _ t' (.int i tv)
theorem p_no {Q : Value → Shared → Prop} (y : ∀ v t', IsPart v none → Q v ⟨h, gs, dr, t', os⟩) : WP w A (evalPart none env) Q ⟨h, gs, dr, t, os⟩ := p_none (y _ _ .none)
theorem mod3 (n : Int) : n.fmod 3 = 0 ∨ n.fmod 3 = 1 ∨ n.fmod 3 = 2 := by
  have e : n.fmod 3 = n % 3 := Int.fmod_eq_emod_of_nonneg _ (by decide)
  (first|lia|omega)
theorem el_1 {C : Addr} {v : Value} {Q : Value → Shared → Prop} {n : Int} {tk : Tok} (hv : v = .int n tk) (H : Hp g C h mC more) (hm : mC (Str.ofString "x") = some v) (y : ∀ h' t' y, Sg v y → Hp g C h' mC more → Q y ⟨h', gs, dr, t', os⟩) :
    WP w A (eval (lcElt lc1) (compEnvC (lcSc lc1 (scoOf (st 12))) [] C (env_law L))) Q ⟨h, gs, dr, t, os⟩ := by
  subst hv
  refine e_sub ?_
  refine e_str fun t1 t2 => ?_
  refine e_bin ?_
  refine cx_loc H (by kernel_rfl!) (by kernel_rfl!) (by decide) hm ?_
  refine e_int fun t3 t4 => ?_
  refine o_mod (by decide) fun t5 t6 => ?_
  rcases mod3 n with e | e | e
  · rw [e]
    exact x_str (c := 117) (by decide) (by decide +kernel) (by decide +kernel) fun t7 t8 => y h _ _ ⟨117, t7, rfl, .inl rfl⟩ H
  · rw [e]
    exact x_str (c := 118) (by decide) (by decide +kernel) (by decide +kernel) fun t7 t8 => y h _ _ ⟨118, t7, rfl, .inr (.inl rfl)⟩ H
  · rw [e]
    exact x_str (c := 119) (by decide) (by decide +kernel) (by decide +kernel) fun t7 t8 => y h _ _ ⟨119, t7, rfl, .inr (.inr rfl)⟩ H
theorem e_ahead {dl : Addr} {vs : List Value} {ns : List Int} {od : Obj} {v0 v2 v3 v4 v5 v6 v7 v8 v9 v10 v11 v12 v13 : Option Value} {Q : Value → Shared → Prop} (hA : AOk A d u) (H : Hp g L h (LV ns_law [v0, some (.ref dl), v2, v3, v4, v5, v6, v7, v8, v9, v10, v11, v12, v13]) news) (hd : (dl, od) ∈ news) (ho : IsL od vs.toArray) (hi : IntsAre vs ns) (hn : ns.length ≤ 63)
    (y : ∀ h' t' tv (s : Str), (∀ c ∈ s.cps.toList, SgC c) → s.length ≤ 63 → t + 1 ≤ t' → Hp g L h' (LV ns_law [v0, some (.ref dl), v2, v3, v4, v5, v6, v7, v8, v9, v10, v11, v12, v13]) news → Q (.str s tv) ⟨h', gs, dr, t', os⟩) :
    WP w A (eval (rhs (nthS (bodyOf (st 12)) 1)) (env_law L)) Q ⟨h, gs, dr, t, os⟩ := by
  refine e_meth ?_
  refine e_strX ?_
  refine m_join ?_
  refine with_t ?_
  refine call_rule' ?_
  refine sp_cons ?_
  refine e_map (scope := lcSc lc1 (scoOf (st 12))) (F := Sg) hA H (cl_1 L) (by kernel_rfl!) (by kernel_rfl!) (by kernel_rfl!) (by kernel_rfl!) ?_
  refine e_slice (l := dl) (vs := vs) (ns := ns) (lo := some 0) (hi := none) (st := some 2) H (fun t Q' z => ld_law_1 H (z _)) (ho.list (H.mem hd)) hi (by (first|lia|omega)) (by decide) (fun t Q' z => p_int z) (fun t Q' z => p_no z) (fun t Q' z => p_int z) fun a h1 t1 vs' ns' o ho' hi' hle H1 => ?_
  have hl := hi'.length
  refine ⟨a, h1, t1, (a, o) :: news, vs', rfl, rfl, H1, fun z hz _ => ho'.list (hz _ (.head _)), by (first|lia|omega), fun C v h2 t2 mC more hv H2 hm Q' z => ?_, fun D h3 t3 ys oD H3 hD hF => ?_⟩
  · obtain ⟨n, tk, e⟩ := ints_mem hi' hv
    exact el_1 e H2 hm z
  · refine sp_nil ?_
    refine keep_b ?_
    obtain ⟨zs, z1, z2, z3⟩ := strs_of hF
    have zl : (zs.map (·.length)).sum ≤ zs.length := by
      clear z1 z3
      induction zs with
      | nil => exact Nat.le_refl _
      | cons z zs ih =>
        obtain ⟨c, rfl, _⟩ := z2 z (.head _)
        have := ih fun q hq => z2 q (.tail _ hq)
        simp only [List.map_cons, List.sum_cons, List.length_cons]
        have e : (⟨#[c]⟩ : Str).length = 1 := rfl
        (first|lia|omega)
    have el : (Str.ofString "").length = 0 := by decide
    refine join_list (hD.list (H3.at 0 rfl)) (by simpa using z1) (by rw [el]; (first|lia|omega)) fun t5 k => ?_
    intro htt
    obtain ⟨j1, j2⟩ := join_sg (e := Str.ofString "") (by decide) zs z2
    have je : Txt.join (Str.ofString "") zs = Str.join (Str.ofString "") zs := eq_of_beq (join_closes rfl)
    rw [je]
    have jl : (Str.join (Str.ofString "") zs).length = zs.length := j2
    exact y h3 _ t5 _ j1 (by (first|lia|omega)) htt (H3.skip 2)
theorem el_2 {C : Addr} {v : Value} {Q : Value → Shared → Prop} {n : Int} {tk : Tok} (hv : v = .int n tk) (H : Hp g C h mC more) (hm : mC (Str.ofString "x") = some v) (y : ∀ h' t' y, Sg v y → Hp g C h' mC more → Q y ⟨h', gs, dr, t', os⟩) :
    WP w A (eval (lcElt lc2) (compEnvC (lcSc lc2 (scoOf (st 12))) [] C (env_law L))) Q ⟨h, gs, dr, t, os⟩ := by
  subst hv
  refine e_sub ?_
  refine e_str fun t1 t2 => ?_
  refine e_bin ?_
  refine cx_loc H (by kernel_rfl!) (by kernel_rfl!) (by decide) hm ?_
  refine e_int fun t3 t4 => ?_
  refine o_mod (by decide) fun t5 t6 => ?_
  rcases mod3 n with e | e | e
  · rw [e]
    exact x_str (c := 117) (by decide) (by decide +kernel) (by decide +kernel) fun t7 t8 => y h _ _ ⟨117, t7, rfl, .inl rfl⟩ H
  · rw [e]
    exact x_str (c := 118) (by decide) (by decide +kernel) (by decide +kernel) fun t7 t8 => y h _ _ ⟨118, t7, rfl, .inr (.inl rfl)⟩ H
  · rw [e]
    exact x_str (c := 119) (by decide) (by decide +kernel) (by decide +kernel) fun t7 t8 => y h _ _ ⟨119, t7, rfl, .inr (.inr rfl)⟩ H
theorem e_behind {dl : Addr} {vs : List Value} {ns : List Int} {od : Obj} {v0 v2 v3 v4 v5 v6 v7 v8 v9 v10 v11 v12 v13 : Option Value} {Q : Value → Shared → Prop} (hA : AOk A d u) (H : Hp g L h (LV ns_law [v0, some (.ref dl), v2, v3, v4, v5, v6, v7, v8, v9, v10, v11, v12, v13]) news) (hd : (dl, od) ∈ news) (ho : IsL od vs.toArray) (hi : IntsAre vs ns) (hn : ns.length ≤ 63)
    (y : ∀ h' t' tv (s : Str), (∀ c ∈ s.cps.toList, SgC c) → s.length ≤ 63 → t + 1 ≤ t' → Hp g L h' (LV ns_law [v0, some (.ref dl), v2, v3, v4, v5, v6, v7, v8, v9, v10, v11, v12, v13]) news → Q (.str s tv) ⟨h', gs, dr, t', os⟩) :
    WP w A (eval (rhs (nthS (bodyOf (st 12)) 2)) (env_law L)) Q ⟨h, gs, dr, t, os⟩ := by
  refine e_meth ?_
  refine e_strX ?_
  refine m_join ?_
  refine with_t ?_
  refine call_rule' ?_
  refine sp_cons ?_
  refine e_map (scope := lcSc lc2 (scoOf (st 12))) (F := Sg) hA H (cl_2 L) (by kernel_rfl!) (by kernel_rfl!) (by kernel_rfl!) (by kernel_rfl!) ?_
  refine e_slice (l := dl) (vs := vs) (ns := ns) (lo := some 1) (hi := none) (st := some 2) H (fun t Q' z => ld_law_1 H (z _)) (ho.list (H.mem hd)) hi (by (first|lia|omega)) (by decide) (fun t Q' z => p_int z) (fun t Q' z => p_no z) (fun t Q' z => p_int z) fun a h1 t1 vs' ns' o ho' hi' hle H1 => ?_
  have hl := hi'.length
  refine ⟨a, h1, t1, (a, o) :: news, vs', rfl, rfl, H1, fun z hz _ => ho'.list (hz _ (.head _)), by (first|lia|omega), fun C v h2 t2 mC more hv H2 hm Q' z => ?_, fun D h3 t3 ys oD H3 hD hF => ?_⟩
  · obtain ⟨n, tk, e⟩ := ints_mem hi' hv
    exact el_2 e H2 hm z
  · refine sp_nil ?_
    refine keep_b ?_
    obtain ⟨zs, z1, z2, z3⟩ := strs_of hF
    have zl : (zs.map (·.length)).sum ≤ zs.length := by
      clear z1 z3
      induction zs with
      | nil => exact Nat.le_refl _
      | cons z zs ih =>
        obtain ⟨c, rfl, _⟩ := z2 z (.head _)
        have := ih fun q hq => z2 q (.tail _ hq)
        simp only [List.map_cons, List.sum_cons, List.length_cons]
        have e : (⟨#[c]⟩ : Str).length = 1 := rfl
        (first|lia|omega)
    have el : (Str.ofString "").length = 0 := by decide
    refine join_list (hD.list (H3.at 0 rfl)) (by simpa using z1) (by rw [el]; (first|lia|omega)) fun t5 k => ?_
    intro htt
    obtain ⟨j1, j2⟩ := join_sg (e := Str.ofString "") (by decide) zs z2
    have je : Txt.join (Str.ofString "") zs = Str.join (Str.ofString "") zs := eq_of_beq (join_closes rfl)
    rw [je]
    have jl : (Str.join (Str.ofString "") zs).length = zs.length := j2
    exact y h3 _ t5 _ j1 (by (first|lia|omega)) htt (H3.skip 2)
end
theorem lk_268 (P : Params) : (KF P).lookup 268 = some (o268 P) := by kernel_rfl!
theorem cd_268 (P : Params) : codeIn (KF P) (.ref 267) (Str.ofString "law") = true := by kernel_rfl!
theorem sums_of : ∀ {vs ys : List Value}, Paired Sm vs ys → ∃ l : List (Int × Tok), ys = l.map (fun p => Value.int p.1 p.2) ∧ ∀ p ∈ l, 0 ≤ p.1
  | _, _, .nil => ⟨[], rfl, (fun _ h => nomatch h)⟩
  | _, _, .cons h r => by
    obtain ⟨n, tk, rfl, hn⟩ := h
    obtain ⟨l, rfl, h2⟩ := sums_of r
    refine ⟨((n : Int), tk) :: l, rfl, fun p hp => ?_⟩
    rcases List.mem_cons.mp hp with rfl | hp
    · exact Int.natCast_nonneg n
    · exact h2 p hp
theorem preSum_nn {f : Nat → Int} (h : ∀ i, 0 ≤ f i) : ∀ n, 0 ≤ preSum f n
  | 0 => Int.le_refl _
  | n + 1 => by have := preSum_nn h n; have := h n; show 0 ≤ preSum f n + f n; (first|lia|omega)
theorem numAt_nn {l : List (Int × Tok)} (h : ∀ p ∈ l, 0 ≤ p.1) (i : Nat) : 0 ≤ numAt l.toArray i := by
  unfold numAt
  cases e : l.toArray[i]? with
  | none => simp
  | some p =>
    have hp : p ∈ l := by simpa using Array.mem_of_getElem? e
    simpa using h p hp
theorem mod9 (n : Int) : ∃ p : Nat, n.fmod 9 = (p : Int) ∧ p ≤ 8 := by
  have e : n.fmod 9 = n % 9 := Int.fmod_eq_emod_of_nonneg _ (by decide)
  exact ⟨(n % 9).toNat, by (first|lia|omega), by (first|lia|omega)⟩
theorem mod1000 (n : Int) : ∃ p : Nat, n.fmod 1000 = (p : Int) ∧ p < 1000 := by
  have e : n.fmod 1000 = n % 1000 := Int.fmod_eq_emod_of_nonneg _ (by decide)
  exact ⟨(n % 1000).toNat, by (first|lia|omega), by (first|lia|omega)⟩
noncomputable def GT (tv : Tok) (t : Nat) : Prop := tv ≠ 0 ∧ tv < t
section
variable {w : World} {A : Around} {gs : Array GenState} {dr : Drawn} {os : OsState} {g h h' : Heap} {L C I D : Addr} {d u t : Nat} {m mC : Str → Option Value} {news nw more : List (Addr × Obj)} {pos : Pos} {env : Env}
theorem empty_app {x y : Str} (h : x.length = 0) : x ++ y = y := by
  have h0 : x.cps = #[] := Array.eq_empty_of_size_eq_zero h
  show Str.append x y = y
  cases y; simp [Str.append, h0]
theorem app_empty {x y : Str} (h : y.length = 0) : x ++ y = x := by
  have h0 : y.cps = #[] := Array.eq_empty_of_size_eq_zero h
  show Str.append x y = x
  cases x; simp [Str.append, h0]
theorem s_addG {x y : Str} {tx ty : Tok} {Q : Value → Shared → Prop} (hx : x.length + y.length ≤ 100000) (g1 : x.length = 0 → GT ty t) (g2 : x.length ≠ 0 → y.length = 0 → GT tx t) (ht : 1 ≤ t) (z : ∀ tv t', GT tv t' → Q (.str (x ++ y) tv) ⟨h, gs, dr, t', os⟩) :
    WP w A (binaryOp .Add (.str x tx) (.str y ty)) Q ⟨h, gs, dr, t, os⟩ := by
  refine P.add_str ?_
  by_cases c1 : x.length = 0
  · rw [if_pos (by simpa using c1)]
    have := z _ _ (g1 c1)
    rw [empty_app c1] at this
    exact this
  · rw [if_neg (by simpa using c1)]
    by_cases c2 : y.length = 0
    · rw [if_pos (by simpa using c2)]
      have := z _ _ (g2 c1 c2)
      rw [app_empty c2] at this
      exact this
    · rw [if_neg (by simpa using c2)]
      refine ⟨by rw [strLen_append, sizeLine_eq]; (first|lia|omega), z t (t + 1) ⟨?_, Nat.lt_succ_self t⟩⟩
      exact Nat.ne_of_gt ht
theorem el_3 {C : Addr} {v : Value} {Q : Value → Shared → Prop} {n : Int} {tk : Tok} (hv : v = .int n tk) (H : Hp g C h mC more) (hm : mC (Str.ofString "x") = some v) (y : ∀ h' t' y, Sm v y → Hp g C h' mC more → Q y ⟨h', gs, dr, t', os⟩) :
    WP w A (eval (lcElt lc3) (compEnvC (lcSc lc3 (scoOf (st 12))) [] C (env_law L))) Q ⟨h, gs, dr, t, os⟩ := by
  subst hv
  refine e_bin ?_
  refine cx_loc H (by kernel_rfl!) (by kernel_rfl!) (by decide) hm ?_
  refine e_int fun t3 t4 => ?_
  refine o_mod (by decide) fun t5 t6 => ?_
  obtain ⟨p, e, hp⟩ := mod1000 n
  rw [e]
  exact y h _ _ ⟨p, t5, rfl, hp⟩ H
theorem e_total {dl : Addr} {vs : List Value} {ns : List Int} {od : Obj} {v0 v2 v3 v4 v5 v6 v7 v8 v9 v10 v11 v12 v13 : Option Value} {Q : Value → Shared → Prop} (B : Bs w g) (hA : AOk A d u) (H : Hp g L h (LV ns_law [v0, some (.ref dl), v2, v3, v4, v5, v6, v7, v8, v9, v10, v11, v12, v13]) news) (hd : (dl, od) ∈ news) (ho : IsL od vs.toArray) (hi : IntsAre vs ns) (hn : ns.length ≤ 63)
    (y : ∀ h' t' tv (k : Int), Hp g L h' (LV ns_law [v0, some (.ref dl), v2, v3, v4, v5, v6, v7, v8, v9, v10, v11, v12, v13]) news → Q (.int k tv) ⟨h', gs, dr, t', os⟩) :
    WP w A (eval (rhs (nthS (bodyOf (st 12)) 4)) (env_law L)) Q ⟨h, gs, dr, t, os⟩ := by
  refine e_bin ?_
  refine e_int fun t1 t2 => ?_
  refine e_call ?_
  (with_reducible refine gl_law_sum ‹_› ‹_› ?_)
  refine call_rule ?_
  refine sp_cons ?_
  have hl := hi.length
  refine e_map (scope := lcSc lc3 (scoOf (st 12))) (F := Sm) hA H (cl_3 L) (by kernel_rfl!) (by kernel_rfl!) (by kernel_rfl!) (by kernel_rfl!) ?_
  refine ld_law_1 H ?_
  refine ⟨dl, h, _, news, vs, rfl, rfl, H, fun z hz _ => ho.list (hz _ hd), by (first|lia|omega), fun C v h2 t2 mC more hv H2 hm Q' z => ?_, fun D h3 t3 ys oD H3 hD hF => ?_⟩
  · obtain ⟨n, tk, e⟩ := ints_mem hi hv
    exact el_3 e H2 hm z
  · refine sp_nil ?_
    refine keep_b ?_
    obtain ⟨l, rfl, hnn⟩ := sums_of hF
    have e1 : (l.map fun p => Value.int p.1 p.2).toArray = intItems l.toArray := by simp [intItems]
    rw [e1] at hD
    refine sum_intListG hA.hh (hD.list (H3.at 0 rfl)) fun h4 tk t4 k => ?_
    refine o_add fun t5 t6 => ?_
    exact y h4 _ _ _ ((H3.ext k).skip 1)
end
noncomputable def PlainAll : Prop := ∀ (x : Str) (p q : Nat), 22 ≤ x.length → x.length ≤ 1000 → (∀ c ∈ x.cps.toList, SgC c) → p ≤ 8 → q ≤ 8 → PlainOk x p q
noncomputable def midS : Str := Str.ofString "uvuuvuvuuvuuvuvuuvuvuu"
theorem mid_sg : (midS.cps.toList.all fun c => c == 117 || c == 118 || c == 119) = true := by decide +kernel
theorem mid_len : midS.length = 22 := by decide +kernel
noncomputable def LI (gs : Array GenState) (dr : Drawn) (os : OsState) (g : Heap) (L LL T1 T2 : Addr) (it : Addr) (x : Str) (tx : Tok) (p q : Nat) (t1 t2 t3 t4 : Tok) (v0 v1 v2 v3 v5 v6 v7 : Option Value) (n : Nat) (s : Shared) : Prop :=
  ∃ (h : Heap) (t j : Nat) (oI : Obj) (v8 v9 v10 v11 v12 v13 : Option Value), s = ⟨h, gs, dr, t, os⟩ ∧ n = 2 - j ∧ j ≤ 2 ∧ tx < t ∧ IsLI oI LL j ∧
    Hp g L h (LV ns_law [v0, v1, v2, v3, some (.str x tx), v5, v6, v7, v8, v9, v10, v11, v12, v13]) [(it, oI), (LL, lObj #[.ref T1, .ref T2] 0), (T2, tObj [.int (q : Nat) t3, .int (p : Nat) t4]), (T1, tObj [.int (p : Nat) t1, .int (q : Nat) t2])]
theorem LI.mk {gs : Array GenState} {dr : Drawn} {os : OsState} {g : Heap} {L LL T1 T2 : Addr} {it : Addr} {x : Str} {tx : Tok} {p q : Nat} {t1 t2 t3 t4 : Tok} {v0 v1 v2 v3 v5 v6 v7 : Option Value} {n : Nat} {h : Heap} {t : Nat} {oI : Obj} {v8 v9 v10 v11 v12 v13 : Option Value} (j : Nat) (p0 : n = 2 - j) (p1 : j ≤ 2) (p2 : tx < t) (p3 : IsLI oI LL j) (p4 : Hp g L h (LV ns_law [v0, v1, v2, v3, some (.str x tx), v5, v6, v7, v8, v9, v10, v11, v12, v13]) [(it, oI), (LL, lObj #[.ref T1, .ref T2] 0), (T2, tObj [.int (q : Nat) t3, .int (p : Nat) t4]), (T1, tObj [.int (p : Nat) t1, .int (q : Nat) t2])]) : LI gs dr os g L LL T1 T2 it x tx p q t1 t2 t3 t4 v0 v1 v2 v3 v5 v6 v7 n ⟨h, gs, dr, t, os⟩ :=
  ⟨h, t, j, oI, v8, v9, v10, v11, v12, v13, rfl, p0, p1, p2, p3, p4⟩
section
variable {w : World} {A : Around} {gs : Array GenState} {dr : Drawn} {os : OsState} {g h h' : Heap} {L C I D : Addr} {d u t : Nat} {m mC : Str → Option Value} {news nw more : List (Addr × Obj)} {pos : Pos} {env : Env}
set_option maxHeartbeats 1000000 in
theorem law_loop {LL T1 T2 it : Addr} {x : Str} {tx t1 t2 t3 t4 : Tok} {p q : Nat} {v0 v1 v2 v3 v5 v6 v7 : Option Value} {Q : Flow → Shared → Prop} {s : Shared} (PL : PlainAll) (B : Bs w g) (hA : AOk A d u) (hd : d + 10 < recursionLimit) (hu : u + 7 < cLine)
    (hx : 22 ≤ x.length) (hx2 : x.length ≤ 1000) (hsg : ∀ c ∈ x.cps.toList, SgC c) (hp : p ≤ 8) (hq : q ≤ 8) (ht0 : tx ≠ 0)
    (I0 : LI gs dr os g L LL T1 T2 it x tx p q t1 t2 t3 t4 v0 v1 v2 v3 v5 v6 v7 2 s)
    (y : ∀ h t, Ext g h → Q .next ⟨h, gs, dr, t, os⟩) : ForK w A (env_law L) lawT lawB (.ref it) Q s := by
  refine for_invT (LI gs dr os g L LL T1 T2 it x tx p q t1 t2 t3 t4 v0 v1 v2 v3 v5 v6 v7) (fun n s C hC hI => ?_) _ I0
  obtain ⟨h, t, j, oI, v8, v9, v10, v11, v12, v13, rfl, rfl, hj, ht, hI, H⟩ := hI
  have hl : h.IsList LL #[.ref T1, .ref T2] := lo_isList (H.at 1 rfl)
  -- one turn
  have go : ∀ (a b : Nat) (ta tb : Tok) (T : Addr) (h1 : Heap) (oI' : Obj), a ≤ 8 → b ≤ 8 → IsLI oI' LL (j + 1) → j < 2 → h1.get? T = some (tObj [.int (a : Nat) ta, .int (b : Nat) tb]) →
      Hp g L h1 (LV ns_law [v0, v1, v2, v3, some (.str x tx), v5, v6, v7, v8, v9, v10, v11, v12, v13]) [(it, oI'), (LL, lObj #[.ref T1, .ref T2] 0), (T2, tObj [.int (q : Nat) t3, .int (p : Nat) t4]), (T1, tObj [.int (p : Nat) t1, .int (q : Nat) t2])] →
      WP w A (letOwnedTupleGo lawT (.ref it) (.ref T)) (fun _ s₁ => WP w A (assign lawT (env_law L) (.ref T)) (fun _ s₂ => WP w A (execs lawB (env_law L)) (Turn C (fun s₃ => Q .next s₃) Q) s₂) s₁) ⟨h1, gs, dr, t, os⟩ := by
    intro a b ta tb T h1 oI' ha hb hI' hj2 hT H1
    refine go_li (H1.at 0 rfl) hI' ?_
    refine with_t ?_
    refine a_tupK [(Str.ofString "head", _), (Str.ofString "tail", _)] hA.hh H1 hT (by with_unfolding_all rfl) (by with_unfolding_all rfl) (by with_unfolding_all rfl) fun h2 k2 H2 => ?_
    dsimp only [List.map]
    refine stn_cons ?_
    (with_reducible refine st_law_8 ‹_› ?_); intro h3 t3 H3
    refine stn_cons ?_
    (with_reducible refine st_law_9 ‹_› ?_); intro h4 t4 H4
    refine stn_nil ?_
    intro ht4
    dsimp only at ht4
    refine with_t ?_
    refine body_ok B hA hd hu H4 hx hx2 ha hb ht0 (Nat.lt_of_lt_of_le ht ht4) (PL x a b hx hx2 hsg ha hb) ?_
    intro h5 t5 w10 w11 w12 w13 H5 ht5
    dsimp only at ht5
    exact hC (2 - (j + 1)) _ (by (first|lia|omega)) (LI.mk (j + 1) rfl (by (first|lia|omega)) (Nat.lt_of_lt_of_le ht (Nat.le_trans ht4 ht5)) hI' H5)
  match j, hj, hI, H, go with
  | 0, hj, hI, H, go =>
    refine nx_list 0 H rfl hI hl (x := .ref T1) rfl fun h1 oI' hI' H1 => ?_
    exact go p q t1 t2 T1 h1 oI' hp hq hI' (by (first|lia|omega)) (H1.at 3 rfl) H1
  | 1, hj, hI, H, go =>
    refine nx_list 0 H rfl hI hl (x := .ref T2) rfl fun h1 oI' hI' H1 => ?_
    exact go q p t3 t4 T2 h1 oI' hq hp hI' (by (first|lia|omega)) (H1.at 2 rfl) H1
  | 2, hj, hI, H, go =>
    refine nx_list_end 0 hA.hh H rfl hI hl rfl fun h1 H1 => ?_
    exact y h1 _ H1.F.keep
  | j + 3, hj, _, _, _ => (first|lia|omega)
end
section
variable {w : World} {A : Around} {gs : Array GenState} {dr : Drawn} {os : OsState} {g h h' : Heap} {L C I D : Addr} {d u t : Nat} {m mC : Str → Option Value} {news nw more : List (Addr × Obj)} {pos : Pos} {env : Env}
set_option maxHeartbeats 4000000 in
theorem law_call (PL : PlainAll) {l : Addr} {vs : List Value} {ns : List Int} {Q : Value → Shared → Prop} (B : Bs w h) (hA : AOk A d u) (hd : d + 12 < recursionLimit) (hu : u + 10 < cLine) (hl : h.IsList l vs.toArray) (hi : IntsAre vs ns) (hn : ns.length ≤ 63)
    (y : ∀ h' t', Ext h h' → Q (.bool true) ⟨h', gs, dr, t', os⟩) : WP w A (call (.ref 268) [.ref l]) Q ⟨h, gs, dr, t, os⟩ := by
  refine enter (vs := [.ref l]) (ns := ns_law) (news := []) h B (Ext.refl h) (Nat.le_refl _) (by simp) (by simp) hA (by (first|lia|omega)) ok_law (lk_268 _) (cd_268 _) (.of_eq (by kernel_rfl!)) (by kernel_rfl!) (by kernel_rfl!) (by kernel_rfl!) ?_
  intro h1 t1 H _
  change WP w _ (execs (bodyOf (st 12)) (env_law h.objs.size)) _ _
  have hA1 := hA.deeper (envOf (Str.ofString "law") (scoOf (st 12)) h.objs.size 268 (.ref 267))
  generalize A.deeper _ = A1 at hA1 ⊢
  change Hp h h.objs.size h1 (LV ns_law [some (.ref l), none, none, none, none, none, none, none, none, none, none, none, none, none]) [] at H
  have hl1 : h1.IsList l vs.toArray := by
    obtain ⟨o, e1, e2⟩ := hl
    exact ⟨o, H.F.keep _ _ e1, e2⟩
  refine r_cons ?_
  refine r_assign ?_
  refine e_slice (l := l) (vs := vs) (ns := ns) (lo := none) (hi := some 8) (st := none) H (fun t Q' z => ld_law_0 H (z _)) hl1 hi (by (first|lia|omega)) (by decide) (fun t Q' z => p_no z) (fun t Q' z => p_int z) (fun t Q' z => p_no z) fun dl h2 t2 vs' ns' od ho hi' hle H2 => ?_
  (with_reducible refine st_law_1 ‹_› ?_); intro h3 t3 H3
  have hn' : ns'.length ≤ 63 := by (first|lia|omega)
  refine r_cons ?_
  refine r_assign ?_
  refine e_ahead hA1 H3 (.head _) ho hi' hn' fun h4 t4 ta sA a1 a2 a3 H4 => ?_
  refine with_t ?_
  (with_reducible refine st_law_2 ‹_› ?_); intro h5 t5 H5 a5
  dsimp only at a5
  refine r_cons ?_
  refine r_assign ?_
  refine e_behind hA1 H5 (.head _) ho hi' hn' fun h6 t6 tb sB b1 b2 b3 H6 => ?_
  refine with_t ?_
  (with_reducible refine st_law_3 ‹_› ?_); intro h7 t7 H7 b5
  dsimp only at b5
  have ht7 : 1 ≤ t7 := by (first|lia|omega)
  refine r_cons ?_
  refine r_assign ?_
  refine e_bin ?_
  refine e_bin ?_
  (with_reducible refine ld_law_2 ‹_› ?_)
  refine e_strX ?_
  have ml := mid_len
  change midS.length = 22 at ml
  refine s_addG (y := midS) (by (first|lia|omega)) (fun _ => ⟨Nat.ne_of_gt ht7, Nat.lt_succ_self _⟩) (fun _ z => by (first|lia|omega)) (by (first|lia|omega)) fun tv1 t8 g1 => ?_
  (with_reducible refine ld_law_3 ‹_› ?_)
  refine s_addG (by rw [strLen_append]; (first|lia|omega)) (fun z => by rw [strLen_append] at z; (first|lia|omega)) (fun _ _ => g1) (by obtain ⟨z1, z2⟩ := g1; exact Nat.lt_of_le_of_lt (Nat.zero_le _) z2) fun tx t9 g2 => ?_
  generalize hX : (sA ++ midS) ++ sB = X
  have hXl : X.length = sA.length + 22 + sB.length := by rw [← hX, strLen_append, strLen_append]; (first|lia|omega)
  have hXs : ∀ c ∈ X.cps.toList, SgC c := by
    intro c hc
    rw [← hX, app_list, app_list] at hc
    simp only [List.mem_append] at hc
    rcases hc with (hc | hc) | hc
    · exact a1 c hc
    · have := List.all_eq_true.mp mid_sg c hc
      simp only [Bool.or_eq_true, beq_iff_eq] at this
      rcases this with (e | e) | e
      · exact .inl e
      · exact .inr (.inl e)
      · exact .inr (.inr e)
    · exact b1 c hc
  refine with_t ?_
  (with_reducible refine st_law_4 ‹_› ?_); intro h10 t10 H10 c10
  dsimp only at c10
  have gx : tx < t10 := Nat.lt_of_lt_of_le g2.2 c10
  refine r_consT ?_
  refine r_assign ?_
  refine e_total B hA1 H10 (.head _) ho hi' hn' fun h11 t11 tt k H11 => ?_
  (with_reducible refine st_law_5 ‹_› ?_); intro h12 t12 H12 c12
  dsimp only at c12
  have gx : tx < t12 := Nat.lt_of_lt_of_le gx c12
  refine r_consT ?_
  refine r_swap [Str.ofString "one", Str.ofString "two"] (by with_unfolding_all rfl) ?_
  refine e_tuple H12 ?_
  refine sp_cons ?_
  refine e_bin ?_
  (with_reducible refine ld_law_5 ‹_› ?_)
  refine e_int fun t13 t14 => ?_
  refine o_mod (by decide) fun t15 t16 => ?_
  refine sp_cons ?_
  refine e_bin ?_
  refine e_bin ?_
  (with_reducible refine ld_law_5 ‹_› ?_)
  refine e_int fun t17 t18 => ?_
  refine PyProof.Rows.floordiv_int (by decide) ?_
  refine e_int fun t19 t20 => ?_
  refine o_mod (by decide) fun t21 t22 => ?_
  refine sp_nil ?_
  obtain ⟨p, ep, hp⟩ := mod9 k
  obtain ⟨q, eq, hq⟩ := mod9 (k.fdiv 9)
  rw [ep, eq]
  refine n_tuple H12 fun T0 h23 H23 _ _ _ => ?_
  refine k_swap2 hA1.hh H23 fun h24 H24 => ?_
  refine stn_cons ?_
  (with_reducible refine st_law_7 ‹_› ?_); intro h25 t25 H25
  refine stn_cons ?_
  (with_reducible refine st_law_6 ‹_› ?_); intro h26 t26 H26
  refine stn_nil ?_
  intro c26
  dsimp only at c26
  have gx : tx < t26 := Nat.lt_of_lt_of_le gx c26
  clear H H2 H3 H4 H5 H6 H7 H10 H11 H12 H23 H24 H25
  refine r_cons ?_
  refine r_for ?_
  refine with_t ?_
  refine e_list ?_
  refine sp_cons ?_
  refine e_tuple H26 ?_
  refine sp_cons ?_
  (with_reducible refine ld_law_6 ‹_› ?_)
  refine sp_cons ?_
  (with_reducible refine ld_law_7 ‹_› ?_)
  refine sp_nil ?_
  refine n_tuple H26 fun T1 h27 H27 _ _ _ => ?_
  refine sp_cons ?_
  refine e_tuple H27 ?_
  refine sp_cons ?_
  (with_reducible refine ld_law_7 ‹_› ?_)
  refine sp_cons ?_
  (with_reducible refine ld_law_6 ‹_› ?_)
  refine sp_nil ?_
  refine n_tuple H27 fun T2 h28 H28 _ _ _ => ?_
  refine sp_nil ?_
  refine n_list H28 fun LL h29 _ H29 => ?_
  intro c29
  refine it_list H29 (lo_isList (H29.at 0 rfl)) fun it h30 oI hI H30 => ?_
  have H31 := H30.drop 4
  dsimp only [List.eraseIdx] at H31
  refine law_loop (x := X) (tx := tx) (p := p) (q := q) (T1 := T1) (T2 := T2) (LL := LL) PL B hA1 (by (first|lia|omega)) (by (first|lia|omega)) (by (first|lia|omega)) (by (first|lia|omega)) hXs hp hq g2.1 ⟨h30, _, 0, oI, _, _, _, _, _, _, rfl, rfl, by (first|lia|omega), gx, hI, H31⟩ ?_
  intro h32 t32 k32
  refine r_cons ?_
  refine r_ret ?_
  refine e_bool ?_
  exact y h32 t32 k32
end
theorem law_ok (PL : PlainAll) : LawOk := by
  intro w mg mb mean s l vs ns Q B hl hi hn y
  obtain ⟨h, gs, dr, t, os⟩ := s
  exact law_call PL ⟨mg, mb, mean, B⟩ aok_caller (by decide) (by decide +kernel) hl hi hn fun h' t' k => y h' t' k
/-! The plain law of the answers. -/
noncomputable def sw (b : Bk) : Bk := (b.2.1, b.1, b.2.2)
noncomputable def swS (s : Sp) : Sp := (s.2.2.1, s.2.2.2, s.1, s.2.1)
theorem nextQ_sw (alo ahi blo bhi i j k : Nat) : nextQ blo bhi alo ahi j i k = (nextQ alo ahi blo bhi i j k).map swS := by
  unfold nextQ
  by_cases c1 : alo < i ∧ blo < j
  · rw [if_pos c1, if_pos c1.symm]; rfl
  · rw [if_neg c1, if_neg (fun z => c1 z.symm)]
    by_cases c2 : i + k < ahi ∧ j + k < bhi
    · rw [if_pos c2, if_pos c2.symm]; rfl
    · rw [if_neg c2, if_neg (fun z => c2 z.symm)]; rfl
theorem tg_sw (i j ai bj : Nat) : tg j i bj ai = turnW (tg i j ai bj) := by
  unfold tg
  by_cases c1 : i < ai <;> by_cases c2 : j < bj <;> simp [c1, c2, turnW]
theorem turnW_ne (x : String) : turnW x ≠ "" ↔ x ≠ "" := by
  unfold turnW
  by_cases c1 : x = "insert"
  · subst c1; simp
  · rw [if_neg c1]
    by_cases c2 : x = "delete"
    · subst c2; simp
    · rw [if_neg c2]
theorem step1_sw (i j : Nat) (b : Bk) : cstep1 j i (sw b) = (cstep1 i j b).map turnO := by
  unfold cstep1
  show (if tg j i b.2.1 b.1 ≠ "" then [(tg j i b.2.1 b.1, j, b.2.1, i, b.1)] else []) = _
  rw [tg_sw]
  by_cases c : tg i j b.1 b.2.1 ≠ ""
  · rw [if_pos c, if_pos ((turnW_ne _).mpr c)]; rfl
  · rw [if_neg c, if_neg (fun z => c ((turnW_ne _).mp z))]; rfl
theorem step2_sw (b : Bk) : cstep2 (sw b) = (cstep2 b).map turnO := by
  unfold cstep2
  show (if b.2.2 ≠ 0 then _ else _) = _
  split <;> rfl
theorem codes_sw : ∀ (bs : List Bk) (i j : Nat), codesOf j i (bs.map sw) = (codesOf i j bs).map turnO
  | [], _, _ => rfl
  | b :: bs, i, j => by
    show (cstep1 j i (sw b) ++ cstep2 (sw b)) ++ codesOf ((sw b).1 + (sw b).2.2) ((sw b).2.1 + (sw b).2.2) (bs.map sw) = ((cstep1 i j b ++ cstep2 b) ++ codesOf (b.1 + b.2.2) (b.2.1 + b.2.2) bs).map turnO
    rw [step1_sw, step2_sw, List.map_append, List.map_append]
    congr 1
    exact codes_sw bs _ _
theorem mstep_sw (c b : Bk) (na : List Bk) : mstep (sw c) (na.map sw) (sw b) = (sw (mstep c na b).1, (mstep c na b).2.map sw) := by
  unfold mstep
  by_cases e : c.1 + c.2.2 = b.1 ∧ c.2.1 + c.2.2 = b.2.1
  · rw [if_pos e, if_pos (show (sw c).1 + (sw c).2.2 = (sw b).1 ∧ (sw c).2.1 + (sw c).2.2 = (sw b).2.1 from e.symm)]; rfl
  · rw [if_neg e, if_neg (show ¬ ((sw c).1 + (sw c).2.2 = (sw b).1 ∧ (sw c).2.1 + (sw c).2.2 = (sw b).2.1) from fun z => e z.symm)]
    show (sw b, if c.2.2 ≠ 0 then _ else _) = (sw b, List.map sw (if c.2.2 ≠ 0 then _ else _))
    by_cases z : c.2.2 ≠ 0
    · rw [if_pos z, if_pos z, List.map_append]; rfl
    · rw [if_neg z, if_neg z]
theorem merge_sw : ∀ (bs : List Bk) (c : Bk) (na : List Bk), merge (sw c) (na.map sw) (bs.map sw) = (sw (merge c na bs).1, (merge c na bs).2.map sw)
  | [], _, _ => rfl
  | b :: bs, c, na => by
    show merge (mstep (sw c) (na.map sw) (sw b)).1 (mstep (sw c) (na.map sw) (sw b)).2 (bs.map sw) = _
    rw [mstep_sw]
    exact merge_sw bs _ _
theorem blocks_sw (bs : List Bk) (la lb : Nat) : blocksOf (bs.map sw) lb la = (blocksOf bs la lb).map sw := by
  unfold blocksOf
  have := merge_sw bs (0, 0, 0) []
  change merge (0, 0, 0) [] (bs.map sw) = _ at this
  rw [this, List.map_append]
  congr 1
  unfold closeM
  show (if (merge (0, 0, 0) [] bs).1.2.2 ≠ 0 then _ else _) = _
  by_cases z : (merge (0, 0, 0) [] bs).1.2.2 ≠ 0
  · rw [if_pos z, if_pos z, List.map_append]; rfl
  · rw [if_neg z, if_neg z]
inductive RunsS (a b : List Nat) : Option Sp → List Bk → List Bk → Nat → Prop
  | done (mb : List Bk) : RunsS a b none mb mb 0
  | miss {alo ahi blo bhi i j : Nat} (mb : List Bk) : SM a b alo ahi blo bhi i j 0 → RunsS a b (some (alo, ahi, blo, bhi)) mb mb 1
  | hit {alo ahi blo bhi i j k n : Nat} {mb res : List Bk} : SM a b alo ahi blo bhi i j k → 0 < k → ¬ ((alo < i ∧ blo < j) ∧ (i + k < ahi ∧ j + k < bhi)) → mb.length < 100 → RunsS a b (nextQ alo ahi blo bhi i j k) (mb ++ [(i, j, k)]) res n → RunsS a b (some (alo, ahi, blo, bhi)) mb res (n + 1)
theorem RunsS.fwd {a b : List Nat} {o : Option Sp} {mb res : List Bk} {n : Nat} (R : RunsS a b o mb res n) : Runs a b o mb res n := by
  induction R with
  | done mb => exact .done mb
  | miss mb h => exact .miss mb h.fwd
  | hit h h1 h2 h3 _ ih => exact .hit h.fwd h1 h2 h3 ih
theorem RunsS.bwd {a b : List Nat} {o : Option Sp} {mb res : List Bk} {n : Nat} (R : RunsS a b o mb res n) : Runs b a (o.map swS) (mb.map sw) (res.map sw) n := by
  induction R with
  | done mb => exact .done _
  | miss mb h => exact .miss _ h.bwd
  | @hit alo ahi blo bhi i j k n mb res h h1 h2 h3 _ ih =>
    refine .hit h.bwd h1 (fun z => h2 ⟨z.1.symm, z.2.symm⟩) (by simpa using h3) ?_
    rw [nextQ_sw]
    rw [List.map_append] at ih
    exact ih
-- the matches, as sorted
noncomputable def resA (k q pl e : Nat) : List Bk := (if 0 < k then [(0, 0, k)] else []) ++ (if 0 < q then [(pl, e, q)] else [])
theorem mstep_y {c b : Bk} {na : List Bk} (h : c.1 + c.2.2 = b.1 ∧ c.2.1 + c.2.2 = b.2.1) : mstep c na b = ((c.1, c.2.1, c.2.2 + b.2.2), na) := if_pos h
theorem mstep_n {c b : Bk} {na : List Bk} (h : ¬ (c.1 + c.2.2 = b.1 ∧ c.2.1 + c.2.2 = b.2.1)) : mstep c na b = (b, if c.2.2 ≠ 0 then na ++ [c] else na) := if_neg h
theorem blocks0 (la lb : Nat) : blocksOf [] la lb = [(la, lb, 0)] := rfl
theorem first_m (i j k : Nat) : mstep (0, 0, 0) [] (i, j, k) = ((i, j, k), []) := by
  by_cases h : (0 : Nat) + 0 = i ∧ (0 : Nat) + 0 = j
  · rw [mstep_y h]
    obtain ⟨rfl, rfl⟩ := h
    simp
  · rw [mstep_n h]; rfl
theorem blocks1 {i j k : Nat} (la lb : Nat) (h : 0 < k) : blocksOf [(i, j, k)] la lb = [(i, j, k), (la, lb, 0)] := by
  show closeM (mstep (0, 0, 0) [] (i, j, k)) ++ [(la, lb, 0)] = _
  rw [first_m]
  show (if k ≠ 0 then _ else _) ++ _ = _
  rw [if_pos (by (first|lia|omega))]; rfl
theorem blocks2 {i j k i' j' k' : Nat} (la lb : Nat) (h : 0 < k) (h' : 0 < k') (hne : ¬ (i + k = i' ∧ j + k = j')) : blocksOf [(i, j, k), (i', j', k')] la lb = [(i, j, k), (i', j', k'), (la, lb, 0)] := by
  show closeM (mstep (mstep (0, 0, 0) [] (i, j, k)).1 (mstep (0, 0, 0) [] (i, j, k)).2 (i', j', k')) ++ [(la, lb, 0)] = _
  rw [first_m, mstep_n hne]
  show (if k' ≠ 0 then (if k ≠ 0 then _ else _) ++ _ else _) ++ _ = _
  rw [if_pos (by (first|lia|omega)), if_pos (by (first|lia|omega))]; rfl
theorem cs_ri {i j ai bj s : Nat} (h : j < bj) : cstep1 i j (ai, bj, s) = [((if i < ai then "replace" else "insert"), i, ai, j, bj)] := by
  unfold cstep1 tg
  show (if (if i < ai ∧ j < bj then "replace" else if i < ai then "delete" else if j < bj then "insert" else "") ≠ "" then [((if i < ai ∧ j < bj then "replace" else if i < ai then "delete" else if j < bj then "insert" else ""), i, ai, j, bj)] else []) = _
  by_cases c : i < ai <;> simp [c, h]
theorem cs_d {i j ai bj s : Nat} (h : ¬ j < bj) : cstep1 i j (ai, bj, s) = if i < ai then [("delete", i, ai, j, bj)] else [] := by
  unfold cstep1 tg
  show (if (if i < ai ∧ j < bj then "replace" else if i < ai then "delete" else if j < bj then "insert" else "") ≠ "" then [((if i < ai ∧ j < bj then "replace" else if i < ai then "delete" else if j < bj then "insert" else ""), i, ai, j, bj)] else []) = _
  by_cases c : i < ai <;> simp [c, h]
theorem cs2 {i j k : Nat} (h : 0 < k) : cstep2 (i, j, k) = [("equal", i, i + k, j, j + k)] := if_pos (show k ≠ 0 by (first|lia|omega))
theorem cs20 {i j : Nat} : cstep2 (i, j, 0) = [] := rfl
theorem co_cons (i j a b k : Nat) (bs : List Bk) : codesOf i j ((a, b, k) :: bs) = (cstep1 i j (a, b, k) ++ cstep2 (a, b, k)) ++ codesOf (a + k) (b + k) bs := rfl
theorem co_nil (i j : Nat) : codesOf i j [] = [] := rfl
theorem codes_plain {n p q pl m : Nat} (hm : 0 < m) (hn : p + q < n) (hpl : pl + q ≤ n) (h0 : q = 0 → pl = n) :
    codesOf 0 0 (blocksOf (resA (min p pl) q pl (p + m)) n (p + m + q)) = dueCodes n p q pl m := by
  unfold dueCodes
  generalize hk : min p pl = k
  have hkp : k ≤ p := by (first|lia|omega)
  have hkl : k ≤ pl := by (first|lia|omega)
  unfold resA
  by_cases c1 : 0 < k <;> by_cases c2 : 0 < q
  · rw [if_pos c1, if_pos c2, if_pos c1, if_pos c2]
    rw [show [(0, 0, k)] ++ [(pl, p + m, q)] = [((0 : Nat), (0 : Nat), k), (pl, p + m, q)] from rfl, blocks2 _ _ c1 c2 (by (first|lia|omega))]
    rw [co_cons, co_cons, co_cons, co_nil, cs_d (by (first|lia|omega)), cs2 c1, cs2 c2, cs20, cs_ri (by (first|lia|omega)), cs_d (by (first|lia|omega)), if_neg (by (first|lia|omega))]
    simp only [Nat.zero_add, List.nil_append, List.append_nil, List.append_assoc]
  · have hq : q = 0 := by (first|lia|omega)
    subst hq
    have := h0 rfl
    subst this
    rw [if_pos c1, if_neg c2, if_pos c1, if_neg c2, List.append_nil, blocks1 _ _ c1]
    rw [co_cons, co_cons, co_nil, cs_d (by (first|lia|omega)), cs2 c1, cs20, cs_ri (by (first|lia|omega)), if_neg (show ¬ (0 : Nat) < 0 by (first|lia|omega)), if_neg (show ¬ pl + 0 < pl by (first|lia|omega))]
    simp only [Nat.zero_add, Nat.add_zero, List.nil_append, List.append_nil, List.append_assoc]
  · rw [if_neg c1, if_pos c2, if_neg c1, if_pos c2, List.nil_append, blocks1 _ _ c2]
    have hk0 : k = 0 := by (first|lia|omega)
    subst hk0
    rw [co_cons, co_cons, co_nil, cs2 c2, cs20, cs_ri (by (first|lia|omega)), cs_d (by (first|lia|omega))]
    simp only [Nat.zero_add, List.nil_append, List.append_nil, List.append_assoc]
  · have hq : q = 0 := by (first|lia|omega)
    subst hq
    have := h0 rfl
    subst this
    have hk0 : k = 0 := by (first|lia|omega)
    subst hk0
    rw [if_neg c1, if_neg c2, if_neg c1, if_neg c2, List.nil_append, blocks0]
    rw [co_cons, co_nil, cs20, cs_ri (by (first|lia|omega)), if_neg (show ¬ pl + 0 < pl by (first|lia|omega))]
    simp only [Nat.zero_add, Nat.add_zero, List.nil_append, List.append_nil]
-- the whole text: one stretch
theorem goes_whole (x : List Nat) (h : 0 < x.length) : Goes x x [("equal", 0, x.length, 0, x.length)] := by
  refine ⟨[(0, 0, x.length)], 1, ?_, by simp, fun p q e => by simp at e, ?_, ?_⟩
  · refine .hit (whole_sm x).fwd h (by (first|lia|omega)) (by simp) ?_
    rw [show nextQ 0 x.length 0 x.length 0 0 x.length = none by unfold nextQ; rw [if_neg (by (first|lia|omega)), if_neg (by (first|lia|omega))]]
    exact .done _
  · show (blocksOf [(0, 0, x.length)] _ _).length ≤ 100
    rw [blocks1 _ _ h]; simp
  · show codesOf 0 0 (blocksOf [(0, 0, x.length)] _ _) = _
    rw [blocks1 _ _ h, co_cons, co_cons, co_nil, cs_d (by (first|lia|omega)), cs2 h, cs20, cs_d (by (first|lia|omega)), if_neg (by (first|lia|omega)), if_neg (by (first|lia|omega))]
    simp
-- the matcher's run over a text and its short form
theorem runs_short {x mark : List Nat} {p q pl : Nat} (L : Lay x mark p q pl) : ∃ res n, RunsS x (short x mark p q) (some (0, x.length, 0, p + mark.length + q)) [] res n ∧ res.length ≤ 2 ∧ (res = resA (min p pl) q pl (p + mark.length) ∨ ∃ b1 b2, res = [b2, b1] ∧ resA (min p pl) q pl (p + mark.length) = [b1, b2] ∧ b1.1 < b2.1 ∧ b1.2.1 < b2.2.1) := by
  have r1 := L.room
  have r2 := L.some
  have r3 := L.place_le
  by_cases hq0 : q = 0
  · have hpl := L.none hq0
    by_cases hp0 : p = 0
    · refine ⟨[], _, .miss [] (L.first0 hp0 hq0), by simp, .inl ?_⟩
      unfold resA
      rw [if_neg (by (first|lia|omega)), if_neg (by (first|lia|omega))]; rfl
    · refine ⟨[(0, 0, p)], 2, .hit (L.firstHead (by (first|lia|omega)) (by (first|lia|omega))) (by (first|lia|omega)) (by (first|lia|omega)) (by simp) ?_, by simp, .inl ?_⟩
      · rw [show nextQ 0 x.length 0 (p + mark.length + q) 0 0 p = some (p, x.length, p, p + mark.length + q) by unfold nextQ; rw [if_neg (by (first|lia|omega)), if_pos (by (first|lia|omega))]; simp]
        exact .miss _ (L.nextNone hq0)
      · unfold resA
        rw [if_pos (by (first|lia|omega)), if_neg (by (first|lia|omega)), show min p pl = p by (first|lia|omega)]; rfl
  · by_cases hqp : q ≤ p
    · have hlo := L.place_lo hqp
      have hA : resA (min p pl) q pl (p + mark.length) = [(0, 0, p), (pl, p + mark.length, q)] := by
        unfold resA
        rw [if_pos (by (first|lia|omega)), if_pos (by (first|lia|omega)), show min p pl = p by (first|lia|omega)]; rfl
      by_cases hlt : p < pl
      · refine ⟨[(0, 0, p), (pl, p + mark.length, q)], 3, .hit (L.firstHead (by (first|lia|omega)) hqp) (by (first|lia|omega)) (by (first|lia|omega)) (by simp) ?_, by simp, .inl hA.symm⟩
        rw [show nextQ 0 x.length 0 (p + mark.length + q) 0 0 p = some (p, x.length, p, p + mark.length + q) by unfold nextQ; rw [if_neg (by (first|lia|omega)), if_pos (by (first|lia|omega))]; simp]
        refine .hit (L.nextTail hqp (by (first|lia|omega))) (by (first|lia|omega)) (by (first|lia|omega)) (by simp) ?_
        rw [show nextQ p x.length p (p + mark.length + q) pl (p + mark.length) q = some (p, pl, p, p + mark.length) by unfold nextQ; rw [if_pos (by (first|lia|omega))]]
        exact .miss _ (L.between (by (first|lia|omega)))
      · refine ⟨[(0, 0, p), (pl, p + mark.length, q)], 2, .hit (L.firstHead (by (first|lia|omega)) hqp) (by (first|lia|omega)) (by (first|lia|omega)) (by simp) ?_, by simp, .inl hA.symm⟩
        rw [show nextQ 0 x.length 0 (p + mark.length + q) 0 0 p = some (p, x.length, p, p + mark.length + q) by unfold nextQ; rw [if_neg (by (first|lia|omega)), if_pos (by (first|lia|omega))]; simp]
        refine .hit (L.nextTail hqp (by (first|lia|omega))) (by (first|lia|omega)) (by (first|lia|omega)) (by simp) ?_
        rw [show nextQ p x.length p (p + mark.length + q) pl (p + mark.length) q = none by unfold nextQ; rw [if_neg (by (first|lia|omega)), if_neg (by (first|lia|omega))]]
        exact .done _
    · have hT := L.firstTail (by (first|lia|omega))
      by_cases hpl : 0 < pl
      · have n1 : nextQ 0 x.length 0 (p + mark.length + q) pl (p + mark.length) q = some (0, pl, 0, p + mark.length) := by unfold nextQ; rw [if_pos (by (first|lia|omega))]
        by_cases hk : 0 < min p pl
        · have hA : resA (min p pl) q pl (p + mark.length) = [(0, 0, min p pl), (pl, p + mark.length, q)] := by
            unfold resA
            rw [if_pos hk, if_pos (by (first|lia|omega))]; rfl
          by_cases hlt : p < pl
          · refine ⟨[(pl, p + mark.length, q), (0, 0, min p pl)], 3, .hit hT (by (first|lia|omega)) (by (first|lia|omega)) (by simp) ?_, by simp, .inr ⟨_, _, rfl, hA, by show 0 < pl; (first|lia|omega), by show 0 < p + mark.length; (first|lia|omega)⟩⟩
            rw [n1]
            refine .hit L.ahead hk (by (first|lia|omega)) (by simp) ?_
            rw [show nextQ 0 pl 0 (p + mark.length) 0 0 (min p pl) = some (p, pl, p, p + mark.length) by unfold nextQ; rw [if_neg (by (first|lia|omega)), if_pos (by (first|lia|omega)), show min p pl = p by (first|lia|omega)]; simp]
            exact .miss _ (L.between (by (first|lia|omega)))
          · refine ⟨[(pl, p + mark.length, q), (0, 0, min p pl)], 2, .hit hT (by (first|lia|omega)) (by (first|lia|omega)) (by simp) ?_, by simp, .inr ⟨_, _, rfl, hA, by show 0 < pl; (first|lia|omega), by show 0 < p + mark.length; (first|lia|omega)⟩⟩
            rw [n1]
            refine .hit L.ahead hk (by (first|lia|omega)) (by simp) ?_
            rw [show nextQ 0 pl 0 (p + mark.length) 0 0 (min p pl) = none by unfold nextQ; rw [if_neg (by (first|lia|omega)), if_neg (by (first|lia|omega))]]
            exact .done _
        · refine ⟨[(pl, p + mark.length, q)], 2, .hit hT (by (first|lia|omega)) (by (first|lia|omega)) (by simp) ?_, by simp, .inl ?_⟩
          · rw [n1]
            have := L.ahead
            rw [show min p pl = 0 by (first|lia|omega)] at this
            exact .miss _ this
          · unfold resA
            rw [if_neg hk, if_pos (by (first|lia|omega))]; rfl
      · refine ⟨[(pl, p + mark.length, q)], 1, .hit hT (by (first|lia|omega)) (by (first|lia|omega)) (by simp) ?_, by simp, .inl ?_⟩
        · rw [show nextQ 0 x.length 0 (p + mark.length + q) pl (p + mark.length) q = none by unfold nextQ; rw [if_neg (by (first|lia|omega)), if_neg (by (first|lia|omega))]]
          exact .done _
        · unfold resA
          rw [if_neg (by (first|lia|omega)), if_pos (by (first|lia|omega))]; rfl
theorem asc_A {k q pl e : Nat} : Asc (resA k q pl e) = resA k q pl e := by
  unfold resA
  by_cases c1 : 0 < k <;> by_cases c2 : 0 < q <;> simp [c1, c2, Asc]
theorem asc_As {k q pl e : Nat} : Asc ((resA k q pl e).map sw) = (resA k q pl e).map sw := by
  unfold resA
  by_cases c1 : 0 < k <;> by_cases c2 : 0 < q <;> simp [c1, c2, Asc, sw]
theorem blocks_len {k q pl e la lb : Nat} (h : ¬ (k = pl ∧ k = e)) : (blocksOf (resA k q pl e) la lb).length ≤ 100 := by
  unfold resA
  by_cases c1 : 0 < k <;> by_cases c2 : 0 < q
  · rw [if_pos c1, if_pos c2]
    rw [show [(0, 0, k)] ++ [(pl, e, q)] = [((0 : Nat), (0 : Nat), k), (pl, e, q)] from rfl, blocks2 _ _ c1 c2 (by (first|lia|omega))]
    simp
  · rw [if_pos c1, if_neg c2, List.append_nil, blocks1 _ _ c1]; simp
  · rw [if_neg c1, if_pos c2, List.nil_append, blocks1 _ _ c2]; simp
  · rw [if_neg c1, if_neg c2, List.nil_append, blocks0]; simp
theorem two_A {k q pl e : Nat} {b1 b2 : Bk} (h : resA k q pl e = [b1, b2]) : b1 = (0, 0, k) ∧ b2 = (pl, e, q) ∧ 0 < k := by
  unfold resA at h
  by_cases c1 : 0 < k <;> by_cases c2 : 0 < q <;> simp [c1, c2] at h
  exact ⟨h.1.symm, h.2.symm, c1⟩
theorem goes_both {x mark : List Nat} {p q pl : Nat} (L : Lay x mark p q pl) :
    Goes x (short x mark p q) (dueCodes x.length p q pl mark.length) ∧ Goes (short x mark p q) x ((dueCodes x.length p q pl mark.length).map turnO) := by
  obtain ⟨res, n, R, h2, cs⟩ := runs_short L
  have r1 := L.room
  have r2 := L.some
  have r3 := L.place_le
  have sl := short_length (x := x) (mark := mark) (p := p) (t := q) (by (first|lia|omega))
  have bl : (blocksOf (resA (min p pl) q pl (p + mark.length)) x.length (p + mark.length + q)).length ≤ 100 := blocks_len (by (first|lia|omega))
  have cp := codes_plain (n := x.length) r2 r1 r3 L.none
  constructor
  · refine ⟨res, n, ?_, h2, ?_, ?_⟩
    · rw [sl]; exact R.fwd
    · intro a b e
      rcases cs with rfl | ⟨b1, b2, rfl, h4, h5, h6⟩
      · obtain ⟨rfl, rfl, hk⟩ := two_A e
        show 0 ≠ pl
        (first|lia|omega)
      · injection e with e1 e2
        injection e2 with e2 _
        subst e1 e2
        (first|lia|omega)
    · have ha : Asc res = resA (min p pl) q pl (p + mark.length) := by
        rcases cs with rfl | ⟨b1, b2, rfl, h4, h5, h6⟩
        · exact asc_A
        · rw [h4]; exact if_pos h5
      rw [ha, sl]
      exact ⟨bl, cp⟩
  · refine ⟨res.map sw, n, ?_, by simpa using h2, ?_, ?_⟩
    · rw [sl]; exact R.bwd
    · intro a b e
      rcases cs with rfl | ⟨b1, b2, rfl, h4, h5, h6⟩
      · cases hr : resA (min p pl) q pl (p + mark.length) with
        | nil => rw [hr] at e; cases e
        | cons c r =>
          cases r with
          | nil => rw [hr] at e; cases e
          | cons c' r' =>
            cases r' with
            | nil =>
              rw [hr] at e
              obtain ⟨rfl, rfl, hk⟩ := two_A hr
              injection e with e1 e2
              injection e2 with e2 _
              subst e1 e2
              show 0 ≠ p + mark.length
              (first|lia|omega)
            | cons c'' r'' => rw [hr] at e; simp at e
      · injection e with e1 e2
        injection e2 with e2 _
        subst e1 e2
        show b2.2.1 ≠ b1.2.1
        (first|lia|omega)
    · have ha : Asc (res.map sw) = (resA (min p pl) q pl (p + mark.length)).map sw := by
        rcases cs with rfl | ⟨b1, b2, rfl, h4, h5, h6⟩
        · exact asc_As
        · rw [h4]; exact if_pos h6
      rw [ha, sl, blocks_sw, codes_sw, cp]
      exact ⟨by simpa using bl, rfl⟩
theorem hit_mt {x : Str} {q k : Nat} (hq : q ≤ x.length) (hk : k + q ≤ x.length) : hitB x q k = true ↔ Mt x.cps.toList x.cps.toList k (x.length - q) q := by
  have xl : x.cps.toList.length = x.length := Array.length_toList
  unfold hitB
  rw [beq_iff_eq]
  constructor
  · intro e i hi
    have h1 : ((x.cps.toList.drop k).take q)[i]? = x.cps.toList[k + i]? := by
      rw [List.getElem?_take, if_pos hi, List.getElem?_drop]
    have h2 : (x.cps.toList.drop (x.length - q))[i]? = x.cps.toList[x.length - q + i]? := by rw [List.getElem?_drop]
    rw [e, h2] at h1
    have hlt : k + i < x.cps.toList.length := by (first|lia|omega)
    exact eqc_iff.mpr ⟨x.cps.toList[k + i], List.getElem?_eq_getElem hlt, by rw [h1]; exact List.getElem?_eq_getElem hlt⟩
  · intro m
    apply List.ext_getElem?
    intro i
    by_cases hi : i < q
    · obtain ⟨c, h1, h2⟩ := eqc_iff.mp (m i hi)
      rw [List.getElem?_take, if_pos hi, List.getElem?_drop, List.getElem?_drop, h1, h2]
    · rw [List.getElem?_take, if_neg hi]
      symm
      rw [List.getElem?_eq_none_iff, List.length_drop]
      (first|lia|omega)
theorem dig_ok : ((List.range 1001).all fun k => (Str.ofString (toString ((k : Nat) : Int))).cps.toList.all (fun c => decide (c < 117))) = true := by decide +kernel
theorem lit_ok : ((Str.ofString "[").cps.toList.all (fun c => decide (c < 117))) = true ∧ ((Str.ofString " chars]").cps.toList.all (fun c => decide (c < 117))) = true := by decide +kernel
theorem mark_low {k : Nat} (hk : k ≤ 1000) : ∀ c ∈ (markS ((k : Nat) : Int)).cps.toList, c < 117 := by
  intro c hc
  unfold markS at hc
  rw [app_list, app_list] at hc
  simp only [List.mem_append] at hc
  rcases hc with (hc | hc) | hc
  · exact of_decide_eq_true (List.all_eq_true.mp lit_ok.1 c hc)
  · have := List.all_eq_true.mp dig_ok k (List.mem_range.mpr (by (first|lia|omega)))
    exact of_decide_eq_true (List.all_eq_true.mp this c hc)
  · exact of_decide_eq_true (List.all_eq_true.mp lit_ok.2 c hc)
theorem mark_some (g : Int) : 0 < (markS g).cps.toList.length := by
  unfold markS
  rw [app_list, app_list]
  have : (Str.ofString "[").cps.toList.length = 1 := by decide
  simp only [List.length_append]
  (first|lia|omega)
theorem lay_of {x : Str} {p q : Nat} (hx2 : x.length ≤ 1000) (hsg : ∀ c ∈ x.cps.toList, SgC c) (hb : 12 < x.length - p - q) :
    Lay x.cps.toList (markS ((x.length : Int) - p - q)).cps.toList p q (placeOf x p q) := by
  have xl : x.cps.toList.length = x.length := Array.length_toList
  have eg : ((x.length : Int) - p - q) = ((x.length - p - q : Nat) : Int) := by (first|lia|omega)
  have q0 : q = 0 → placeOf x p q = x.length := fun e => by unfold placeOf; rw [if_pos e]
  refine ⟨by (first|lia|omega), fun c hc hm => ?_, mark_some _, ?_, fun h => ?_, ?_, fun h0 k h1 h2 h3 => ?_, fun e => by rw [xl]; exact q0 e⟩
  · rw [eg] at hc
    have h1 := mark_low (by (first|lia|omega)) c hc
    rcases hsg c hm with e | e | e <;> (first|lia|omega)
  · rw [xl]
    by_cases e : q = 0
    · rw [q0 e]; (first|lia|omega)
    · obtain ⟨r, -, -, h3, -, -⟩ := hits_cons (x := x) (p := p) (q := q) (by (first|lia|omega)) (by (first|lia|omega))
      (first|lia|omega)
  · by_cases e : q = 0
    · rw [q0 e]; (first|lia|omega)
    · obtain ⟨r, -, -, -, h4, -⟩ := hits_cons (x := x) (p := p) (q := q) (by (first|lia|omega)) (by (first|lia|omega))
      have : lowOf p q = p := by unfold lowOf; rw [if_pos h]
      (first|lia|omega)
  · rw [xl]
    by_cases e : q = 0
    · subst e; exact Mt.zero
    · obtain ⟨r, -, -, h3, -, h5⟩ := hits_cons (x := x) (p := p) (q := q) (by (first|lia|omega)) (by (first|lia|omega))
      exact (hit_mt (by (first|lia|omega)) (by (first|lia|omega))).mp h5
  · rw [xl] at h1 h3
    obtain ⟨r, er, hr, -, -, -⟩ := hits_cons (x := x) (p := p) (q := q) (by (first|lia|omega)) h0
    have hl : lowOf p q ≤ k := by
      unfold lowOf
      split
      · exact h2 (by assumption)
      · (first|lia|omega)
    have hk : k ∈ hitsOf x p q := by
      unfold hitsOf
      rw [List.mem_filter, List.mem_range'_1]
      exact ⟨by (first|lia|omega), (hit_mt (by (first|lia|omega)) h1).mpr h3⟩
    rw [er] at hk
    rcases List.mem_cons.mp hk with e | hk
    · (first|lia|omega)
    · exact hr k hk
theorem plain_all : PlainAll := by
  intro x p q hx hx2 hsg hp hq
  have xl : x.cps.toList.length = x.length := Array.length_toList
  refine ⟨fun _ => ?_, fun hb y hy => ?_⟩
  · have := goes_whole x.cps.toList (by (first|lia|omega))
    rw [xl] at this
    exact this
  · have L := lay_of hx2 hsg hb
    have G := goes_both L
    rw [← hy] at G
    have ml : (markS ((x.length : Int) - p - q)).cps.toList.length = (markS ((x.length : Int) - p - q)).length := Array.length_toList
    rw [xl, ml] at G
    have sl := short_length (x := x.cps.toList) (mark := (markS ((x.length : Int) - p - q)).cps.toList) (p := p) (t := q) (by (first|lia|omega))
    have yl : y.cps.toList.length = y.length := Array.length_toList
    rw [← hy, yl, ml] at sl
    have hml : (markS ((x.length : Int) - p - q)).length ≤ 20 := by
      have hn : (toString ((x.length : Int) - p - q) : String).length ≤ 4 := by
        have := toString_length_le (v := (x.length : Int) - p - q) (by (first|lia|omega)) (k := 4) (by decide) (by (first|lia|omega))
        rwa [PySem.ofString_length] at this
      unfold markS
      rw [strLen_append, strLen_append, PySem.ofString_length, PySem.ofString_length, PySem.ofString_length]
      have e1 : ("[" : String).length = 1 := by decide
      have e2 : (" chars]" : String).length = 7 := by decide
      (first|lia|omega)
    refine ⟨?_, by (first|lia|omega), G.1, G.2⟩
    rintro rfl
    -- the mark's first sign is not in the text
    have hm : ∃ c, c ∈ (markS ((y.length : Int) - p - q)).cps.toList := by
      cases e : (markS ((y.length : Int) - p - q)).cps.toList with
      | nil => have := mark_some ((y.length : Int) - p - q); rw [e] at this; simp at this
      | cons c r => exact ⟨c, .head _⟩
    obtain ⟨c, hc⟩ := hm
    refine L.apart c hc ?_
    rw [hy]
    unfold short
    exact List.mem_append_right _ (List.mem_append_left _ hc)
theorem all_ok : rw'.Holds := holds_of (law_ok plain_all)
end Mine
theorem PySem.Challenge.cw_il0150_01_holds : PySem.Challenge.rw_il0150_01.Holds :=
  Mine.all_ok
