import Derived.Test.Qxb6605849aWk3
namespace Go.Proofs.Qxb6605849a
open Go.RowKit Go.Maps Go.WideMaps

theorem key_lit (s : ByteArray) : WideAt.IsKeyLit (kLit s) := trivial

/-- The set of the first k keys. -/
def Dk (D0 : DataW Unit) (ss : List ByteArray) (k : Nat) : DataW Unit := ((ss.take k).map kLit).foldl (fun m x => m.put x T) D0
theorem Dk_zero (D0 : DataW Unit) (ss : List ByteArray) : Dk D0 ss 0 = D0 := by simp [Dk]
theorem Dk_succ (D0 : DataW Unit) (ss : List ByteArray) (k : Nat) (hk : k < ss.length) : Dk D0 ss (k + 1) = (Dk D0 ss k).put (kLit (ss.getD k ByteArray.empty)) T := by
  unfold Dk
  rw [List.take_add_one, List.map_append, List.foldl_append]
  simp [List.getD, List.getElem?_eq_getElem hk]

theorem fold_isMap : ∀ (l : List Lit) (D : DataW Unit), IsMap D → IsMap (l.foldl (fun m x => m.put x T) D)
  | [], _, h => h
  | x :: r, _, h => fold_isMap r _ (h.put x T)

theorem fold_keeps (y : Lit) (hy : WideAt.IsKeyLit y) (z : DataW Unit) : ∀ (l : List Lit) (D : DataW Unit), IsMap D → (D.atKey y z = T ∧ has D y = true) →
    (l.foldl (fun m x => m.put x T) D).atKey y z = T ∧ has (l.foldl (fun m x => m.put x T) D) y = true
  | [], _, _, h => h
  | x :: r, D, hD, h => by
    rw [List.foldl_cons]
    refine fold_keeps y hy z r _ (hD.put x T) ?_
    by_cases e : y = x
    · subst e
      exact ⟨atKey_put_same hD hy T z, has_put_same hD hy T⟩
    · rw [atKey_put_other e, has_put_other e]
      exact h

theorem fold_at (y : Lit) (hy : WideAt.IsKeyLit y) (z : DataW Unit) : ∀ (l : List Lit) (D : DataW Unit), IsMap D → y ∈ l →
    (l.foldl (fun m x => m.put x T) D).atKey y z = T ∧ has (l.foldl (fun m x => m.put x T) D) y = true
  | x :: r, D, hD, hm => by
    rw [List.foldl_cons]
    by_cases e : y = x
    · subst e
      exact fold_keeps y hy z r _ (hD.put y T) ⟨atKey_put_same hD hy T z, has_put_same hD hy T⟩
    · exact fold_at y hy z r _ (hD.put x T) (by rcases List.mem_cons.1 hm with h | h; exact absurd h e; exact h)

theorem Dk_at {D0 : DataW Unit} (hD : IsMap D0) (ss : List ByteArray) (k : Nat) (hk : k < ss.length) (z : DataW Unit) :
    (Dk D0 ss ss.length).atKey (kLit (ss.getD k ByteArray.empty)) z = T ∧ has (Dk D0 ss ss.length) (kLit (ss.getD k ByteArray.empty)) = true := by
  unfold Dk
  rw [List.take_length]
  refine fold_at _ (key_lit _) z _ _ hD (List.mem_map.2 ⟨_, ?_, rfl⟩)
  rw [List.getD, List.getElem?_eq_getElem hk]; exact List.getElem_mem hk

end Go.Proofs.Qxb6605849a
