import Derived.Test.Qxb6605849aPlain
import Derived.Test.Qxb6605849aWk4
namespace Go.Proofs.Qxb6605849a
open Go.RowKit Go.Maps Go.WideMaps

abbrev bLit (v : Bool) : DataW Unit := .lit (.bool v)
/-- The first j prior marks, laid one by one. -/
def Dp (kk : Nat → ByteArray) (vv : Nat → Bool) (j : Nat) : DataW Unit := (List.range j).foldl (fun D i => D.put (kLit (kk i)) (bLit (vv i))) (.map [])
theorem Dp_zero (kk : Nat → ByteArray) (vv : Nat → Bool) : Dp kk vv 0 = .map [] := rfl
theorem Dp_succ (kk : Nat → ByteArray) (vv : Nat → Bool) (j : Nat) : Dp kk vv (j + 1) = (Dp kk vv j).put (kLit (kk j)) (bLit (vv j)) := by
  unfold Dp
  rw [List.range_succ, List.foldl_append]
  rfl
def BoolMap (D : DataW Unit) : Prop := IsMap D ∧ ∀ k, ∃ v, D.atKey k (bLit false) = bLit v
theorem BoolMap.put {D : DataW Unit} (h : BoolMap D) (s : ByteArray) (v : Bool) : BoolMap (D.put (kLit s) (bLit v)) := by
  refine ⟨h.1.put _ _, fun k => ?_⟩
  by_cases e : k = kLit s
  · subst e; exact ⟨v, atKey_put_same h.1 (key_lit s) _ _⟩
  · rw [atKey_put_other e]; exact h.2 k
theorem boolMap_empty : BoolMap (.map []) := ⟨isMap_empty, fun _ => ⟨false, rfl⟩⟩
theorem has_put {D : DataW Unit} (hD : IsMap D) {y : Lit} (h : has D y = true) (s : ByteArray) (d : DataW Unit) : has (D.put (kLit s) d) y = true := by
  by_cases e : y = kLit s
  · subst e; exact has_put_same hD (key_lit s) _
  · rw [has_put_other e]; exact h
theorem Dp_bool (kk : Nat → ByteArray) (vv : Nat → Bool) : ∀ j, BoolMap (Dp kk vv j)
  | 0 => boolMap_empty
  | j + 1 => by rw [Dp_succ]; exact (Dp_bool kk vv j).put _ _
theorem Dp_has (kk : Nat → ByteArray) (vv : Nat → Bool) {i : Nat} : ∀ j, i < j → has (Dp kk vv j) (kLit (kk i)) = true
  | j + 1, h => by
    rw [Dp_succ]
    by_cases e : i = j
    · subst e; exact has_put_same (Dp_bool kk vv i).1 (key_lit _) _
    · exact has_put (Dp_bool kk vv j).1 (Dp_has kk vv j (by omega)) _ _
theorem Dk_bool {D0 : DataW Unit} (h : BoolMap D0) (ss : List ByteArray) : ∀ j, j ≤ ss.length → BoolMap (Dk D0 ss j)
  | 0, _ => by rw [Dk_zero]; exact h
  | j + 1, hj => by rw [Dk_succ _ _ _ (by omega)]; exact (Dk_bool h ss j (by omega)).put _ _
theorem Dk_has {D0 : DataW Unit} (h : BoolMap D0) (ss : List ByteArray) {y : Lit} (hy : has D0 y = true) : ∀ j, j ≤ ss.length → has (Dk D0 ss j) y = true
  | 0, _ => by rw [Dk_zero]; exact hy
  | j + 1, hj => by rw [Dk_succ _ _ _ (by omega)]; exact has_put (Dk_bool h ss j (by omega)).1 (Dk_has h ss hy j (by omega)) _ _

theorem zeroBool (w : World) : (zeroValue 4).run Try.prog w = .ok (.bool false) w := by kernel_rfl

/-- 'm[k]', as an equation. -/
theorem owns_look {w : World} {b n : Nat} {D : DataW Unit} (h : Owns w b n D) {s : ByteArray} (hs : s.size ≤ maxLen) {v : Bool} (hat : D.atKey (kLit s) (bLit false) = bLit v) :
    (Instr.lookup 28 (.map (some b)) (.string s) false).run Try.prog w = .ok (.bool v) w := by
  obtain ⟨v', ps, hrun, hv⟩ := h.lookup law9 Try.underlying28 (zeroBool w) (plainElem_bool Try.underlying4 false) (keyOf_string_mk Try.underlying9 hs)
  obtain ⟨c, rfl, hc⟩ := plainElem_bool_inv Try.underlying4 hv
  rw [hat] at hc
  simp only [Prod.mk.injEq, DataW.lit.injEq, Lit.bool.injEq] at hc
  obtain ⟨rfl, -⟩ := hc
  exact hrun
/-- 'v, ok := m[k]', as an equation. -/
theorem owns_look_ok {w : World} {b n : Nat} {D : DataW Unit} (h : Owns w b n D) {s : ByteArray} (hs : s.size ≤ maxLen) {v : Bool} (hat : D.atKey (kLit s) (bLit false) = bLit v) (hh : has D (kLit s) = true) :
    (Instr.lookup 28 (.map (some b)) (.string s) true).run Try.prog w = .ok (.tuple #[.bool v, .bool true]) w := by
  obtain ⟨v', ps, hrun, hv⟩ := h.look_ok law9 Try.underlying28 (zeroBool w) (plainElem_bool Try.underlying4 false) (keyOf_string_mk Try.underlying9 hs)
  obtain ⟨c, rfl, hc⟩ := plainElem_bool_inv Try.underlying4 hv
  rw [hat] at hc
  simp only [Prod.mk.injEq, DataW.lit.injEq, Lit.bool.injEq] at hc
  obtain ⟨rfl, -⟩ := hc
  rw [hh] at hrun
  exact hrun

/-- 'len(m)' under a guard that says yes. -/
theorem wpList_len_own_g {H : Type} {P : Program} (w : World) {ops : Array Oper} {rest : List Oper} {o : Oper} {a : Act} {Q : Exit → Act → World → Prop}
    (hw : Region.wanted o (yielded ops a.tmps) = true) (m : Operand) (t : TypeId) (hop : o.op = Op.call { callee := Callee.builtin Builtin.len, args := #[m], argTypes := #[t] })
    (k e : TypeId) (ht : P.underlying t = some (.map k e)) (R : Value → Option (DataW H × List MemPlace)) (b n : Nat) (D : DataW H) (hm : a.eval m = .map (some b)) (hown : w.ownsMap P k R b n D)
    (hK : wpList P ops Q rest (a.put o.dst (.int .i64 (Maps.size D))) w) : wpList P ops Q (o :: rest) a w := by
  refine wpList_step fun K' hK' => ?_
  rw [if_pos hw]
  have hrun := hown.len ht o.type
  unfold Oper.wp
  simp [execOp, hop, resolve, invoke, builtin, hm, hrun, Result.andThen]
  exact hK' _ _ hK

theorem owns_only {S : Nat → Prop} {w w' : World} {b n : Nat} {D : DataW Unit} (h : Owns w b n D) (ho : Only S w w') (hs : ¬ S b) : Owns w' b n D := by
  have hlt := h.lt
  obtain ⟨es, clock, hb, r⟩ := h
  exact ⟨es, clock, (ho.block b hlt hs).trans hb, r⟩
theorem MapIs.only {S : Nat → Prop} {w w' : World} {m : Option Nat} {n : Nat} {D : DataW Unit} (h : MapIs w m n D) (ho : Only S w w') (hs : ∀ b, m = some b → ¬ S b) : MapIs w' m n D := by
  rcases h with h | ⟨b, rfl, h⟩
  · exact .inl h
  · exact .inr ⟨b, rfl, owns_only h ho (hs b rfl)⟩
theorem Only.frameS {S T : Nat → Prop} {w w' : World} (h : Only S w w') (hS : ∀ i, i < w.heap.size → S i → T i) : Only T w w' :=
  ⟨h.os, h.tape, h.output, h.size, fun k hk hs => h.block k hk (fun x => hs (hS k hk x))⟩

end Go.Proofs.Qxb6605849a
