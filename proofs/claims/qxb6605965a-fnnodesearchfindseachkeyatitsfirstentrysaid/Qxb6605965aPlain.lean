import Derived.Test.Qxb6605965aW5
namespace Go.Proofs.Qxb6605965a
open Go.RowKit Go.Maps

/-- One entry's bytes. -/
def encE (e : Ent) : List UInt8 := ((Lib.uvarint e.1.length ++ e.1) ++ Lib.uvarint e.2.length) ++ e.2
theorem enc_len (e : Ent) : (encE e).length = (Lib.uvarint e.1.length).length + e.1.length + (Lib.uvarint e.2.length).length + e.2.length := by
  unfold encE
  rw [List.length_append, List.length_append, List.length_append]
/-- Where entry i begins. -/
def offs (es : List Ent) (i : Nat) : Nat := 24 + 4 * es.length + ((es.take i).map fun e => (encE e).length).sum
theorem offs_zero (es : List Ent) : offs es 0 = 24 + 4 * es.length := by simp [offs]
theorem offs_succ (es : List Ent) (k : Nat) (hk : k < es.length) : offs es (k + 1) = offs es k + (encE (es.getD k d0)).length := by
  unfold offs
  rw [List.take_add_one, List.getElem?_eq_getElem hk, List.map_append, List.sum_append]
  have e : es.getD k d0 = es[k] := by simp [List.getD, hk]
  rw [e, ← Nat.add_assoc]
  rfl
theorem offs_mono (es : List Ent) (i : Nat) : ∀ k, i ≤ k → k ≤ es.length → offs es i ≤ offs es k
  | 0, h, _ => by
    obtain rfl : i = 0 := by omega
    exact Nat.le_refl _
  | k + 1, h, hk => by
    by_cases e : i = k + 1
    · subst e; exact Nat.le_refl _
    · have h1 := offs_mono es i k (by omega) (by omega)
      rw [offs_succ es k (by omega)]
      omega
theorem offs_base (es : List Ent) (i : Nat) : 24 + 4 * es.length ≤ offs es i := by unfold offs; omega
theorem uv_len {v : Nat} (h : v ≤ 1048576) : (Lib.uvarint v).length ≤ 3 := Lib.uvarint_length 2 v (by omega)
theorem offs_le (es : List Ent) (hg : ∀ j, j < es.length → Small (es.getD j d0)) : ∀ k, k ≤ es.length → offs es k + 38 * k ≤ 24 + 4 * es.length + tot (es.take k)
  | 0, _ => by simp [offs, tot]
  | k + 1, hk => by
    have h := offs_le es hg k (by omega)
    have h1 := hg k (by omega)
    have h2 := uv_len h1.1
    have h3 := uv_len h1.2
    rw [offs_succ es k (by omega), tot_take_succ es k (by omega), enc_len]
    omega

/-- The first k entries stand in the node, with their offsets. -/
def NodeTo (f : Nat → UInt8) (es : List Ent) (k : Nat) : Prop :=
  ∀ i, i < k → Has f (24 + 4 * i) (Lib.leBytes 4 (offs es i)) ∧ Has f (offs es i) (encE (es.getD i d0))
theorem NodeTo.keep {f : Nat → UInt8} {es : List Ent} {k : Nat} (h : NodeTo f es k) (hk : k < es.length) {o : Nat} {l : List UInt8} (ho : offs es k ≤ o) : NodeTo (lay f o l) es k := fun i hi => by
  obtain ⟨h1, h2⟩ := h i hi
  have hb := offs_base es k
  have hm := offs_mono es (i + 1) k (by omega) (by omega)
  rw [offs_succ es i (by omega)] at hm
  exact ⟨h1.keep (.inl (by rw [Lib.leBytes_length]; omega)), h2.keep (.inl (by omega))⟩
theorem NodeTo.keepA {f : Nat → UInt8} {es : List Ent} {k : Nat} (h : NodeTo f es k) (hk : k < es.length) (v : Nat) : NodeTo (lay f (24 + 4 * k) (Lib.leBytes 4 v)) es k := fun i hi => by
  obtain ⟨h1, h2⟩ := h i hi
  have hb := offs_base es i
  exact ⟨h1.keep (.inl (by rw [Lib.leBytes_length]; omega)), h2.keep (.inr (by rw [Lib.leBytes_length]; omega))⟩
/-- The bytes that one round lays. -/
def layE (f : Nat → UInt8) (k o : Nat) (e : Ent) : Nat → UInt8 :=
  lay (lay (lay (lay (lay f (24 + 4 * k) (Lib.leBytes 4 o)) o (Lib.uvarint e.1.length)) (o + (Lib.uvarint e.1.length).length) e.1) (o + (Lib.uvarint e.1.length).length + e.1.length) (Lib.uvarint e.2.length)) (o + (Lib.uvarint e.1.length).length + e.1.length + (Lib.uvarint e.2.length).length) e.2
theorem NodeTo.step {f : Nat → UInt8} {es : List Ent} {k : Nat} (h : NodeTo f es k) (hk : k < es.length) : NodeTo (layE f k (offs es k) (es.getD k d0)) es (k + 1) := fun i hi => by
  have hb := offs_base es k
  by_cases e : i = k
  · subst e
    unfold layE
    constructor
    · refine ((((Has.lay_self _ _ _).keep (.inl ?_)).keep (.inl ?_)).keep (.inl ?_)).keep (.inl ?_)
      all_goals (rw [Lib.leBytes_length]; omega)
    · unfold encE
      refine Has.append (Has.append (Has.append ?_ ?_) ?_) ?_
      · exact (((Has.lay_self _ _ _).keep (.inl (by omega))).keep (.inl (by omega))).keep (.inl (by omega))
      · exact ((Has.lay_self _ _ _).keep (.inl (by omega))).keep (.inl (by omega))
      · rw [List.length_append, ← Nat.add_assoc]
        exact (Has.lay_self _ _ _).keep (.inl (by omega))
      · rw [List.length_append, List.length_append, ← Nat.add_assoc, ← Nat.add_assoc]
        exact Has.lay_self _ _ _
  · exact (((((h.keepA hk (offs es k)).keep hk (Nat.le_refl _)).keep hk (by omega)).keep hk (by omega)).keep hk (by omega)) i (by omega)

end Go.Proofs.Qxb6605965a
