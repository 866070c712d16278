import Derived.Test.Qxb6605849aWk3
import Derived.Deep.QuietTactic
import Derived.BigQuiet
namespace Go.Proofs.Qxb6605849a
open Go.RowKit Go.Maps Go.WideMaps

set_option maxHeartbeats 400000 in
set_option maxRecDepth 100000 in
theorem state11 (B : Nat) (m : Option Nat) (x : Bool) (u : Int) (w : World) (hev : EvIs w B m x u) :
    Calls Try.prog 11 #[.pointer (some ⟨B, 0, none⟩)] w fun e w' => e = .returned (.tuple #[.map m, .bool x, .int .i64 u, .bool true]) ∧ ∃ n, w' = w.drewN n := by
  obtain ⟨c0, c1, c2, c3, f0⟩ := hev.cells
  have hq := fun (w : World) (r : Option Nat) => run_eql_map_nil (P := Try.prog) w 58 3 4 r Try.underlying58
  go_enter Try.func11, Try.ntmps11
  go_wp2
  go_quiet (fail)
  go_wp2
  refine bodyPost_ret (v := .tuple #[.map m, .bool x, .int .i64 u, .bool true]) (by simp [results, Try.results11, go_sem]) rfl ⟨rfl, ?_⟩
  exact ⟨_, rfl⟩

theorem plainElem_bool_inv {H : Type} {P : Program} {e : TypeId} (he : P.underlying e = some .bool) {v : Value} {z : DataW H × List MemPlace} (h : plainElem P e v = some z) : ∃ a, v = .bool a ∧ z = (.lit (.bool a), []) := by
  unfold plainElem at h
  rw [he] at h
  cases v <;> simp at h
  exact ⟨_, rfl, h.symm⟩

/-- 'm[k]' in a map of bools. -/
theorem wpList_lookup_own_bool {H : Type} {P : Program} (w : World) {ops : Array Oper} {rest : List Oper} {o : Oper} {a : Act} {Q : Exit → Act → World → Prop}
    (hg : o.guard = none) (m x : Operand) (t : TypeId) (hop : o.op = Op.lookup t m x false)
    (k e : TypeId) (K : Keyed P k) (ht : P.underlying t = some (.map k e)) (he : P.underlying e = some .bool) (hz : (zeroValue e).run P w = .ok (.bool false) w) (b n : Nat) (D : DataW H)
    (hm : a.eval m = .map (some b)) (hown : w.ownsMap P k (plainElem P e) b n D) (key : Value) (kl : Lit) (hx : a.eval x = key) (hkey : keyOf P k key = some kl) (v : Bool) (hat : D.atKey kl (.lit (.bool false)) = .lit (.bool v))
    (hK : wpList P ops Q rest (a.put o.dst (.bool v)) w) :
    wpList P ops Q (o :: rest) a w := by
  refine wpList_plain hg fun K' hK' => ?_
  obtain ⟨v', ps, hrun, hv⟩ := hown.lookup K ht hz (plainElem_bool he false) hkey
  obtain ⟨c, rfl, hc⟩ := plainElem_bool_inv he hv
  rw [hat] at hc
  simp only [Prod.mk.injEq, DataW.lit.injEq, Lit.bool.injEq] at hc
  obtain ⟨rfl, -⟩ := hc
  unfold Oper.wp
  simp [execOp, hop, hm, hx, hrun, Result.andThen]
  exact hK' _ _ hK

/-- 'v, ok := m[k]' in a map of bools. -/
theorem wpList_lookup_own_ok_bool {H : Type} {P : Program} (w : World) {ops : Array Oper} {rest : List Oper} {o : Oper} {a : Act} {Q : Exit → Act → World → Prop}
    (hg : o.guard = none) (m x : Operand) (t : TypeId) (hop : o.op = Op.lookup t m x true)
    (k e : TypeId) (K : Keyed P k) (ht : P.underlying t = some (.map k e)) (he : P.underlying e = some .bool) (hz : (zeroValue e).run P w = .ok (.bool false) w) (b n : Nat) (D : DataW H)
    (hm : a.eval m = .map (some b)) (hown : w.ownsMap P k (plainElem P e) b n D) (key : Value) (kl : Lit) (hx : a.eval x = key) (hkey : keyOf P k key = some kl) (v ok : Bool) (hat : D.atKey kl (.lit (.bool false)) = .lit (.bool v)) (hok : Maps.has D kl = ok)
    (hK : wpList P ops Q rest (a.put o.dst (.tuple #[.bool v, .bool ok])) w) :
    wpList P ops Q (o :: rest) a w := by
  refine wpList_plain hg fun K' hK' => ?_
  obtain ⟨v', ps, hrun, hv⟩ := hown.look_ok K ht hz (plainElem_bool he false) hkey
  obtain ⟨c, rfl, hc⟩ := plainElem_bool_inv he hv
  rw [hat] at hc
  simp only [Prod.mk.injEq, DataW.lit.injEq, Lit.bool.injEq] at hc
  obtain ⟨rfl, -⟩ := hc
  rw [hok] at hrun
  unfold Oper.wp
  simp [execOp, hop, hm, hx, hrun, Result.andThen]
  exact hK' _ _ hK

end Go.Proofs.Qxb6605849a
