import Derived.Test.Qxb6605965aBase
import Derived.Lib.Bytealg
namespace Go.Proofs.Qxb6605965a
open Go.RowKit Go.Maps


theorem cb_cons (x y : UInt8) (a b : List UInt8) : Lib.compareBytes (x :: a) (y :: b) = if x < y then -1 else if y < x then 1 else Lib.compareBytes a b := rfl
theorem cb_self : ∀ l : List UInt8, Lib.compareBytes l l = 0
  | [] => rfl
  | x :: a => by
    rw [cb_cons, if_neg (UInt8.lt_irrefl x), if_neg (UInt8.lt_irrefl x)]
    exact cb_self a
theorem cb_eq : ∀ a b : List UInt8, Lib.compareBytes a b = 0 → a = b
  | [], [], _ => rfl
  | [], _ :: _, h => by simp [Lib.compareBytes] at h
  | _ :: _, [], h => by simp [Lib.compareBytes] at h
  | x :: a, y :: b, h => by
    rw [cb_cons] at h
    by_cases h1 : x < y
    · rw [if_pos h1] at h; omega
    · rw [if_neg h1] at h
      by_cases h2 : y < x
      · rw [if_pos h2] at h; omega
      · rw [if_neg h2] at h
        have e : x = y := by
          rw [UInt8.lt_iff_toNat_lt] at h1 h2
          exact UInt8.toNat_inj.1 (by omega)
        rw [e, cb_eq a b h]
theorem cb_range : ∀ a b : List UInt8, Lib.compareBytes a b = -1 ∨ Lib.compareBytes a b = 0 ∨ Lib.compareBytes a b = 1
  | [], [] => .inr (.inl rfl)
  | [], _ :: _ => .inl rfl
  | _ :: _, [] => .inr (.inr rfl)
  | x :: a, y :: b => by
    rw [cb_cons]
    by_cases h1 : x < y
    · rw [if_pos h1]; exact .inl rfl
    · rw [if_neg h1]
      by_cases h2 : y < x
      · rw [if_pos h2]; exact .inr (.inr rfl)
      · rw [if_neg h2]; exact cb_range a b
/-- a ≤ b and b < c: a < c. -/
theorem cb_le_lt : ∀ a b c : List UInt8, Lib.compareBytes a b ≤ 0 → Lib.compareBytes b c < 0 → Lib.compareBytes a c < 0
  | _, _, [], _, h2 => by
    exfalso
    revert h2
    rename_i b _
    cases b <;> simp [Lib.compareBytes]
  | [], _, _ :: _, _, _ => by simp [Lib.compareBytes]
  | _ :: _, [], _ :: _, h1, _ => by
    exfalso
    revert h1
    simp [Lib.compareBytes]
  | x :: a, y :: b, z :: c, h1, h2 => by
    have ih := cb_le_lt a b c
    rw [cb_cons] at h1 h2 ⊢
    simp only [UInt8.lt_iff_toNat_lt] at h1 h2 ⊢
    by_cases h3 : x.toNat < y.toNat
    · by_cases h4 : z.toNat < y.toNat
      · rw [if_neg (by omega), if_pos h4] at h2
        omega
      · rw [if_pos (by omega)]
        omega
    · rw [if_neg h3] at h1
      by_cases h4 : y.toNat < x.toNat
      · rw [if_pos h4] at h1; omega
      · rw [if_neg h4] at h1
        by_cases h5 : y.toNat < z.toNat
        · rw [if_pos (by omega)]; omega
        · rw [if_neg h5] at h2
          by_cases h6 : z.toNat < y.toNat
          · rw [if_pos h6] at h2; omega
          · rw [if_neg h6] at h2
            rw [if_neg (by omega), if_neg (by omega)]
            exact ih h1 h2
/-- a ≤ b and b ≤ c: a ≤ c. -/
theorem cb_le_trans (a b c : List UInt8) (h1 : Lib.compareBytes a b ≤ 0) (h2 : Lib.compareBytes b c ≤ 0) : Lib.compareBytes a c ≤ 0 := by
  by_cases h : Lib.compareBytes b c < 0
  · exact Int.le_of_lt (cb_le_lt a b c h1 h)
  · have e := cb_eq b c (by omega)
    subst e
    exact h1

/-- The key of entry i. -/
abbrev keyOf (es : List Ent) (i : Nat) : List UInt8 := (es.getD i d0).1
/-- The keys are in order. -/
def Sorted (es : List Ent) : Prop := ∀ i, i + 1 < es.length → Lib.compareBytes (keyOf es i) (keyOf es (i + 1)) ≤ 0
theorem Sorted.le {es : List Ent} (h : Sorted es) (i : Nat) : ∀ j, i ≤ j → j < es.length → Lib.compareBytes (keyOf es i) (keyOf es j) ≤ 0
  | 0, hij, _ => by
    obtain rfl : i = 0 := by omega
    rw [cb_self]; omega
  | j + 1, hij, hj => by
    by_cases e : i = j + 1
    · subst e; rw [cb_self]; omega
    · exact cb_le_trans _ _ _ (h.le i j (by omega) (by omega)) (h j hj)
/-- Ahead of p every key is below key. -/
def Lows (es : List Ent) (key : List UInt8) (p : Nat) : Prop := ∀ i, i < p → Lib.compareBytes (keyOf es i) key < 0
/-- From p on no key is below key. -/
def Highs (es : List Ent) (key : List UInt8) (p : Nat) : Prop := ∀ i, p ≤ i → i < es.length → ¬ Lib.compareBytes (keyOf es i) key < 0
/-- p is the first entry whose key is not below key. -/
def Low (es : List Ent) (key : List UInt8) (p : Nat) : Prop := p ≤ es.length ∧ Lows es key p ∧ Highs es key p
/-- The first k steps go not down. -/
def Steps (es : List Ent) (k : Nat) : Prop := ∀ i, i < k → Lib.compareBytes (keyOf es i) (keyOf es (i + 1)) ≤ 0
theorem Low.unique {es : List Ent} {key : List UInt8} {p q : Nat} (h1 : Low es key p) (h2 : Low es key q) : p = q := by
  rcases Nat.lt_trichotomy p q with h | h | h
  · exact absurd (h2.2.1 p h) (h1.2.2 p (Nat.le_refl _) (Nat.lt_of_lt_of_le h h2.1))
  · exact h
  · exact absurd (h1.2.1 q h) (h2.2.2 q (Nat.le_refl _) (Nat.lt_of_lt_of_le h h1.1))
/-- Below an entry whose key is below key, each key is. -/
theorem Sorted.down {es : List Ent} (h : Sorted es) {key : List UInt8} {m : Nat} (hm : m < es.length) (hc : Lib.compareBytes (keyOf es m) key < 0) : Lows es key (m + 1) :=
  fun i hi => cb_le_lt _ _ _ (h.le i m (by omega) hm) hc
theorem Sorted.up {es : List Ent} (h : Sorted es) {key : List UInt8} {m : Nat} (hc : ¬ Lib.compareBytes (keyOf es m) key < 0) : Highs es key m :=
  fun _ hi hl hn => hc (h.down hl hn m (by omega))
/-- In order, the first place not below an entry's key holds that key, and is not behind it. -/
theorem Low.own {es : List Ent} (h : Sorted es) {j p : Nat} (hj : j < es.length) (hp : Low es (keyOf es j) p) : p ≤ j ∧ keyOf es p = keyOf es j := by
  have h1 : p ≤ j := by
    by_cases hc : p ≤ j
    · exact hc
    · have := hp.2.1 j (by omega)
      rw [cb_self] at this
      omega
  refine ⟨h1, cb_eq _ _ ?_⟩
  have h2 := hp.2.2 p (Nat.le_refl _) (by omega)
  have h3 := h.le p j h1 hj
  omega
theorem cb_drop {a b : List UInt8} {k : Nat} (h : a.take k = b.take k) (ha : k ≤ a.length) (hb : k ≤ b.length) : Lib.compareBytes a b = Lib.compareBytes (a.drop k) (b.drop k) := by
  induction k generalizing a b with
  | zero => simp
  | succ k ih =>
    cases a with
    | nil => simp at ha
    | cons x a =>
      cases b with
      | nil => simp at hb
      | cons y b =>
        simp only [List.take_succ_cons, List.cons.injEq] at h
        obtain ⟨rfl, h⟩ := h
        rw [cb_cons, if_neg (UInt8.lt_irrefl x), if_neg (UInt8.lt_irrefl x), List.drop_succ_cons, List.drop_succ_cons]
        exact ih h (by simpa using ha) (by simpa using hb)
theorem cb_at {a b : List UInt8} {k : Nat} (h : a.take k = b.take k) (ha : k < a.length) (hb : k < b.length) (hne : a.getD k 0 ≠ b.getD k 0) : Lib.compareBytes a b = if a.getD k 0 < b.getD k 0 then -1 else 1 := by
  rw [cb_drop h (Nat.le_of_lt ha) (Nat.le_of_lt hb), List.drop_eq_getElem_cons ha, List.drop_eq_getElem_cons hb, cb_cons]
  have e1 : a.getD k 0 = a[k] := by simp [List.getD, ha]
  have e2 : b.getD k 0 = b[k] := by simp [List.getD, hb]
  rw [← e1, ← e2]
  by_cases h1 : a.getD k 0 < b.getD k 0
  · rw [if_pos h1, if_pos h1]
  · rw [if_neg h1, if_neg h1]
    have : b.getD k 0 < a.getD k 0 := by
      rw [UInt8.lt_iff_toNat_lt] at h1 ⊢
      have : (a.getD k 0).toNat ≠ (b.getD k 0).toNat := fun e => hne (UInt8.toNat_inj.1 e)
      omega
    rw [if_pos this]
theorem cb_end {a b : List UInt8} {k : Nat} (h : a.take k = b.take k) (ha : k ≤ a.length) (hb : k ≤ b.length) (hk : k = a.length ∨ k = b.length) : Lib.compareBytes a b = if a.length < b.length then -1 else if b.length < a.length then 1 else 0 := by
  rw [cb_drop h ha hb]
  rcases hk with hk | hk
  · have e : a.drop k = [] := List.drop_eq_nil_of_le (by omega)
    rw [e]
    by_cases h1 : a.length < b.length
    · rw [if_pos h1]
      have : b.drop k ≠ [] := fun e => by have := congrArg List.length e; simp at this; omega
      cases hb' : b.drop k with
      | nil => exact absurd hb' this
      | cons y c => rfl
    · rw [if_neg h1, if_neg (by omega)]
      have e2 : b.drop k = [] := List.drop_eq_nil_of_le (by omega)
      rw [e2]
      rfl
  · have e : b.drop k = [] := List.drop_eq_nil_of_le (by omega)
    rw [e]
    by_cases h1 : b.length < a.length
    · rw [if_neg (by omega), if_pos h1]
      have : a.drop k ≠ [] := fun e => by have := congrArg List.length e; simp at this; omega
      cases hb' : a.drop k with
      | nil => exact absurd hb' this
      | cons y c => rfl
    · rw [if_neg (by omega), if_neg h1]
      have e2 : a.drop k = [] := List.drop_eq_nil_of_le (by omega)
      rw [e2]
      rfl

end Go.Proofs.Qxb6605965a
