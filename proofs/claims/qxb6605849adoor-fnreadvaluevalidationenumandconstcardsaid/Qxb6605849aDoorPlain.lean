import Derived.Test.Qxb6605849aDoorW4
namespace Go.Proofs.Qxb6605849aDoor
open Go.RowKit Go.Maps Go.WideMaps

abbrev T : DataW Unit := .lit (.bool true)
abbrev bLit (v : Bool) : DataW Unit := .lit (.bool v)
abbrev Owns (w : World) (b n : Nat) (D : DataW Unit) : Prop := w.ownsMap Tryd.prog 9 (plainElem Tryd.prog 4) b n D
theorem owns_only {S : Nat → Prop} {w w' : World} {b n : Nat} {D : DataW Unit} (h : Owns w b n D) (ho : Only S w w') (hs : ¬ S b) : Owns w' b n D := by
  have hlt := h.lt
  obtain ⟨es, clock, hb, r⟩ := h
  exact ⟨es, clock, (ho.block b hlt hs).trans hb, r⟩
/-- The map m (nil: no entry) reads as D. -/
def MapIs (w : World) (m : Option Nat) (n : Nat) (D : DataW Unit) : Prop := (m = none ∧ D = .map []) ∨ ∃ b, m = some b ∧ Owns w b n D
theorem MapIs.only {S : Nat → Prop} {w w' : World} {m : Option Nat} {n : Nat} {D : DataW Unit} (h : MapIs w m n D) (ho : Only S w w') (hs : ∀ b, m = some b → ¬ S b) : MapIs w' m n D := by
  rcases h with h | ⟨b, rfl, h⟩
  · exact .inl h
  · exact .inr ⟨b, rfl, owns_only h ho (hs b rfl)⟩

/-- The i-th value as an interface value. -/
def ifv (tt : Nat → Bool) (xx : Nat → ByteArray) (ff : Nat → Nat) (i : Nat) : Value := if tt i then .iface 9 (.string (xx i)) else .iface 24 (.float .f64 (ff i))
/-- The set of the texts among the first j values. -/
def DT (tt : Nat → Bool) (xx : Nat → ByteArray) (j : Nat) : DataW Unit := (List.range j).foldl (fun D i => if tt i then D.put (kLit (xx i)) T else D) (.map [])
theorem DT_zero (tt : Nat → Bool) (xx : Nat → ByteArray) : DT tt xx 0 = .map [] := rfl
theorem DT_text (tt : Nat → Bool) (xx : Nat → ByteArray) (j : Nat) (h : tt j = true) : DT tt xx (j + 1) = (DT tt xx j).put (kLit (xx j)) T := by
  unfold DT
  rw [List.range_succ, List.foldl_append]
  simp [h]
theorem DT_num (tt : Nat → Bool) (xx : Nat → ByteArray) (j : Nat) (h : tt j = false) : DT tt xx (j + 1) = DT tt xx j := by
  unfold DT
  rw [List.range_succ, List.foldl_append]
  simp [h]
theorem DT_map (tt : Nat → Bool) (xx : Nat → ByteArray) : ∀ j, IsMap (DT tt xx j)
  | 0 => isMap_empty
  | j + 1 => by
    cases h : tt j
    · rw [DT_num _ _ _ h]; exact DT_map tt xx j
    · rw [DT_text _ _ _ h]; exact (DT_map tt xx j).put _ _
theorem DT_at (tt : Nat → Bool) (xx : Nat → ByteArray) {i : Nat} (hi : tt i = true) : ∀ j, i < j → (DT tt xx j).atKey (kLit (xx i)) (bLit false) = T
  | j + 1, h => by
    cases ht : tt j
    · rw [DT_num _ _ _ ht]
      refine DT_at tt xx hi j ?_
      rcases Nat.lt_succ_iff_lt_or_eq.1 h with h | rfl
      · exact h
      · rw [hi] at ht; cases ht
    · rw [DT_text _ _ _ ht]
      by_cases e : kLit (xx i) = kLit (xx j)
      · rw [e]; exact atKey_put_same (DT_map tt xx j) (key_lit _) _ _
      · rw [atKey_put_other e]
        refine DT_at tt xx hi j ?_
        rcases Nat.lt_succ_iff_lt_or_eq.1 h with h | rfl
        · exact h
        · exact absurd rfl e
theorem size_pos {D : DataW Unit} (hD : IsMap D) (s : ByteArray) (d : DataW Unit) : 0 < Maps.size (D.put (kLit s) d) := by
  obtain ⟨es, rfl⟩ := hD
  show 0 < (DataW.insert (kLit s, d) _).length
  rw [length_insert]
  omega
theorem DT_size (tt : Nat → Bool) (xx : Nat → ByteArray) : ∀ j, Maps.size (DT tt xx j) = 0 ↔ ∀ i, i < j → tt i = false
  | 0 => ⟨fun _ i hi => absurd hi (Nat.not_lt_zero _), fun _ => rfl⟩
  | j + 1 => by
    cases h : tt j
    · rw [DT_num _ _ _ h, DT_size tt xx j]
      refine ⟨fun h' i hi => ?_, fun h' i hi => h' i (by omega)⟩
      rcases Nat.lt_succ_iff_lt_or_eq.1 hi with hi | rfl
      · exact h' i hi
      · exact h
    · rw [DT_text _ _ _ h]
      refine ⟨fun h' => ?_, fun h' => ?_⟩
      · have := size_pos (DT_map tt xx j) (xx j) T; omega
      · rw [h' j (by omega)] at h; cases h

theorem zero4 (w : World) : (zeroValue 4).run Tryd.prog w = .ok (.bool false) w := by kernel_rfl
theorem plainElem_bool_inv {H : Type} {P : Program} {e : TypeId} (he : P.underlying e = some .bool) {v : Value} {z : DataW H × List MemPlace} (h : plainElem P e v = some z) : ∃ a, v = .bool a ∧ z = (.lit (.bool a), []) := by
  unfold plainElem at h
  rw [he] at h
  cases v <;> simp at h
  exact ⟨_, rfl, h.symm⟩
theorem owns_look {w : World} {b n : Nat} {D : DataW Unit} (h : Owns w b n D) {s : ByteArray} (hs : s.size ≤ maxLen) {v : Bool} (hat : D.atKey (kLit s) (bLit false) = bLit v) :
    (Instr.lookup 35 (.map (some b)) (.string s) false).run Tryd.prog w = .ok (.bool v) w := by
  obtain ⟨v', ps, hrun, hv⟩ := h.lookup law9 Tryd.underlying35 (zero4 w) (plainElem_bool Tryd.underlying4 false) (keyOf_string_mk Tryd.underlying9 hs)
  obtain ⟨c, rfl, hc⟩ := plainElem_bool_inv Tryd.underlying4 hv
  rw [hat] at hc
  simp only [Prod.mk.injEq, DataW.lit.injEq, Lit.bool.injEq] at hc
  obtain ⟨rfl, -⟩ := hc
  exact hrun

theorem en_ne {w : World} {E b n : Nat} {D : DataW Unit} {v : Value} {m : Option Nat} (h : EnIs w E v m) (ho : Owns w b n D) : E ≠ b := by
  rintro rfl
  obtain ⟨es, clock, hb, _⟩ := ho
  unfold EnIs at h
  rw [h] at hb
  cases hb

/-- What the reading of the enum leaves. -/
def EnumOk (w0 wx : World) (ven : Value) (k : Nat) (tt : Nat → Bool) (xx : Nat → ByteArray) (en : Option Addr) : Prop :=
  (∃ s, ven = .iface 9 s ∧ en = none) ∨
  (∃ v E m, ven = .iface 71 v ∧ en = some ⟨E, 0, none⟩ ∧ EnIs wx E v m ∧ MapIs wx m k (DT tt xx k) ∧ (m = none ↔ ∀ i, i < k → tt i = false) ∧ w0.heap.size ≤ E ∧ ∀ b, m = some b → w0.heap.size ≤ b)

theorem cell_of_heap {w : World} {b : Nat} {cs : Array Value} {t : TypeId} {fr : Nat × Nat} (h : w.heap[b]? = some (.cells cs t fr)) (i : Nat) : w.cell? ⟨b, i, none⟩ = cs[i]? := by
  simp [World.cell?, h]
theorem EnumOk.only {w0 wx wy : World} {ven : Value} {k : Nat} {tt : Nat → Bool} {xx : Nat → ByteArray} {en : Option Addr} {S : Nat → Prop} (h : EnumOk w0 wx ven k tt xx en) (ho : Only S wx wy) (hS : ∀ i, S i → i < w0.heap.size) : EnumOk w0 wy ven k tt xx en := by
  rcases h with h | ⟨v, E, m, h1, h2, h3, h4, h5, h6, h7⟩
  · exact .inl h
  · exact .inr ⟨v, E, m, h1, h2, h3.only ho (fun h => absurd (hS _ h) (by omega)), h4.only ho (fun b hb h => absurd (hS _ h) (by have := h7 b hb; omega)), h5, h6, h7⟩

end Go.Proofs.Qxb6605849aDoor
