import Derived.Test.Qxb6605849aDoorW2
import Derived.Deep.RegionLaw
namespace Go.Proofs.Qxb6605849aDoor
open Go.RowKit Go.Maps Go.WideMaps

theorem step_append_own {P : Program} {ops : Array Oper} {o : Oper} {a : Act} {w : World} {K : Act → World → Prop} {Q : Exit → Act → World → Prop} {E : Prop}
    (hg : o.guard = none) (s x : Operand) (t : TypeId) (hop : o.op = Op.call { callee := Callee.builtin Builtin.append, args := #[s, x], argTypes := #[t, t] })
    (base : Nat) (e : TypeId) (i : TypeInfo) (z : Value) (size bytes : Nat) (h1 : P.underlying t = some (.slice e)) (h2 : P.info? e = some i) (h3 : i.zero = some z) (h4 : i.size = size) (h5 : i.bytes = bytes) (h6 : z.cells.size = size) (h7 : 0 < size)
    (v : Value) (n : Nat) (xs : List Value) (hs : a.eval s = v) (hown : w.ownsRow base e size v n xs)
    (ad : Addr) (m c : Nat) (news : List Value) (hx : a.eval x = .slice (some ad) m c) (hn : news.length = m * size) (hc : ∀ j u, news[j]? = some u → w.cell? (ad.add j) = some u) (h1c : ∀ u ∈ news, u.oneCell' = true)
    (b1 : n + m ≤ maxLen) (b2 : (n + m) * bytes ≤ 140737488355328) (b3 : base ≤ w.heap.size)
    (hK : ∀ v' w', w'.ownsRow base e size v' (n + m) (xs ++ news) → w.grownBy w' v.ownBlock → K (a.put o.dst v') w') :
    if Region.wanted o (yielded ops a.tmps) = true then Oper.wp P o a w K Q else E := by
  have hw : Region.wanted o (yielded ops a.tmps) = true := by simp [Region.wanted, hg]
  rw [if_pos hw]
  obtain ⟨v', w', hrun, r1, r2, _⟩ := run_append_own (P := P) w base t o.type e i z size bytes h1 h2 h3 h4 h5 h6 h7 v n xs hown ad m c news hn hc h1c b1 b2 b3
  unfold Oper.wp
  simp [execOp, hop, resolve, invoke, builtin, hs, hx, hrun, Result.andThen]
  exact hK v' w' r1 r2

theorem info20 : (Tryd.prog.info? 20).map (fun i => (i.zero, i.size, i.bytes)) = some (some .nilIface, 1, 16) := by kernel_rfl

theorem row_form {w : World} {base k : Nat} {v : Value} {xs : List Value} (h : w.ownsRow base 20 1 v k xs) : ∃ a c, v = .slice a k c ∧ (∀ g, v.ownBlock = some g → w.heap[g]?.isSome ∧ ∀ es cl, w.heap[g]? ≠ some (.map es cl)) := by
  rcases h.2 with ⟨rfl, rfl⟩ | ⟨g, cap, cur, rfl, _, hh, _⟩
  · exact ⟨none, 0, rfl, fun g hg => by cases hg⟩
  · refine ⟨_, _, rfl, fun g' hg' => ?_⟩
    simp only [Value.ownBlock, Option.some.injEq] at hg'
    subst hg'
    rw [hh]
    exact ⟨rfl, fun es cl h => by cases h⟩

theorem row_ne_map {w : World} {base k : Nat} {v : Value} {xs : List Value} {M n : Nat} {D : DataW Value} (h : w.ownsRow base 20 1 v k xs) (hf : FOwns w M n D) : v.ownBlock ≠ some M := by
  intro e
  obtain ⟨_, _, _, h2⟩ := row_form h
  obtain ⟨es, cl, hb, _⟩ := hf
  exact (h2 M e).2 es cl hb

theorem row_ne_kw {w : World} {base k : Nat} {v : Value} {xs : List Value} {Kb S M : Nat} (h : w.ownsRow base 20 1 v k xs) (hk : KwIs w Kb S M) : some Kb ≠ v.ownBlock := by
  intro e
  rcases h.2 with ⟨rfl, rfl⟩ | ⟨g, cap, cur, rfl, _, hh, _⟩
  · cases e
  · simp only [Value.ownBlock, Option.some.injEq] at e
    subst e
    unfold KwIs at hk
    rw [hh] at hk
    simp at hk

theorem assert71 (v : Value) (w : World) : (Instr.typeAssert (.iface 71 v) 20 71 false).run Tryd.prog w = .ok v w := by kernel_rfl
theorem assert71_ok (v : Value) (w : World) : (Instr.typeAssert (.iface 71 v) 20 71 true).run Tryd.prog w = .ok (.tuple #[v, .bool true]) w := by kernel_rfl
theorem assert71_no (v : Value) (w : World) : (Instr.typeAssert (.iface 9 v) 20 71 true).run Tryd.prog w = .ok (.tuple #[.slice none 0 0, .bool false]) w := by kernel_rfl
theorem assert9_ok (v : Value) (w : World) : (Instr.typeAssert (.iface 9 v) 20 9 true).run Tryd.prog w = .ok (.tuple #[v, .bool true]) w := by kernel_rfl
theorem assert9_no (v : Value) (w : World) : (Instr.typeAssert (.iface 24 v) 20 9 true).run Tryd.prog w = .ok (.tuple #[.string ByteArray.empty, .bool false]) w := by kernel_rfl
theorem assert24_ok (v : Value) (w : World) : (Instr.typeAssert (.iface 24 v) 20 24 true).run Tryd.prog w = .ok (.tuple #[v, .bool true]) w := by kernel_rfl

set_option maxHeartbeats 1000000 in
set_option maxRecDepth 100000 in
theorem append8 (Kb S M n base k : Nat) (D : DataW Value) (s : ByteArray) (t : ByteArray) (v : Value) (xs : List Value) (w : World) (hk : KwIs w Kb S M) (hf : FOwns w M n D) (hn : n < maxLen) (hs : s.size ≤ maxLen)
    (hat : D.atKey (kLit s) (.held .nilIface) = .held (.iface 71 v)) (hrow : w.ownsRow base 20 1 v k xs) (hb : base ≤ w.heap.size) (hkn : k < 1048576) :
    Calls Tryd.prog 8 #[.pointer (some ⟨Kb, 0, none⟩), .string s, .string t] w (ListPost w M n D s base (k + 1) (xs ++ [.iface 9 (.string t)])) := by
  have hkey : Hid (keyOf Tryd.prog 9 (.string s) = some (kLit s)) := keyOf_string_mk Tryd.underlying9 hs
  obtain ⟨k1, k2⟩ := hk.cells
  have hKb := hk.lt
  have ho0 := ((Only.refl nothing w).alloc (.cells #[.iface 9 (.string t)] 20)).drew
  have hf1 : FOwns (w.alloc (.cells #[.iface 9 (.string t)] 20)).drew M n D := (hf.alloc _).drew
  have hl0 := fowns_look (w := w.drew) hf hs hat
  have hl1 := fowns_look hf1 hs hat
  have hne : Hid (some M ≠ v.ownBlock) := fun e => row_ne_map hrow hf e.symm
  have hrow1 : (w.alloc (.cells #[.iface 9 (.string t)] 20)).drew.ownsRow base 20 1 v k xs := hrow.alloc _
  have hnk : Hid (some Kb ≠ v.ownBlock) := row_ne_kw hrow hk
  have hk1 := (hk.only ho0 (fun h => h))
  have hlt : ∀ q, v.ownBlock = some q → base ≤ q := fun q hq => (hrow.lt q hq).1
  have ho1 : Only (fun i => i = M ∨ base ≤ i) w (w.alloc (.cells #[.iface 9 (.string t)] 20)).drew := ((Only.refl _ w).alloc _).drew
  clear hat
  obtain ⟨i0, hi, hz0, hz1, hz2⟩ := info_parts info20
  obtain ⟨va, vc, rfl, -⟩ := row_form hrow
  have ha := assert71 (.slice va k vc)
  go_enter Tryd.func8, Tryd.ntmps8
  go_region_law (refine step_append_own rfl (.tmp 17) (.tmp 20) 71 rfl base 20 i0 .nilIface 1 16 Tryd.underlying71 hi hz0 hz1 hz2 rfl (by decide) (.slice va k vc) k xs rfl hrow1 ⟨w.heap.size, 0, none⟩ 1 1 [.iface 9 (.string t)] rfl rfl (cell_one_new _ _ _) (by intro u hu; simp at hu; subst hu; rfl) (by unfold maxLen; omega) (by omega) (by simp; omega) ?_; intro v' w2 hrow2 hg2; have hf2 := hf1.kept hg2 hne.out; have k22 := (show KwIs w2 Kb S M from (hg2.block Kb hk1.lt hnk.out).trans hk1).cells.2; obtain ⟨w3, hrun3, hf3, hg3⟩ := World.ownsMap.update hf2 law9 Tryd.underlying64 hn hkey.out (rfl : anyElem (.iface 71 v') = some (.held (.iface 71 v'), [])); have hrow3 := hrow2.kept hg3 (.inr (fun e => row_ne_map hrow2 hf2 e)); have ho3 := (ho1.grown hg2 (fun q hq _ => .inr (hlt q hq))).grown hg3 (fun q hq _ => by cases hq; exact .inl rfl))
  all_goals go_end0
  all_goals exact ⟨rfl, _, hf3, hrow3, ho3⟩

set_option maxHeartbeats 1000000 in
set_option maxRecDepth 100000 in
theorem append9 (Kb S M n base k : Nat) (D : DataW Value) (s : ByteArray) (t : Nat) (v : Value) (xs : List Value) (w : World) (hk : KwIs w Kb S M) (hf : FOwns w M n D) (hn : n < maxLen) (hs : s.size ≤ maxLen)
    (hat : D.atKey (kLit s) (.held .nilIface) = .held (.iface 71 v)) (hrow : w.ownsRow base 20 1 v k xs) (hb : base ≤ w.heap.size) (hkn : k < 1048576) :
    Calls Tryd.prog 9 #[.pointer (some ⟨Kb, 0, none⟩), .string s, .float .f64 t] w (ListPost w M n D s base (k + 1) (xs ++ [.iface 24 (.float .f64 t)])) := by
  have hkey : Hid (keyOf Tryd.prog 9 (.string s) = some (kLit s)) := keyOf_string_mk Tryd.underlying9 hs
  obtain ⟨k1, k2⟩ := hk.cells
  have hKb := hk.lt
  have ho0 := ((Only.refl nothing w).alloc (.cells #[.iface 24 (.float .f64 t)] 20)).drew
  have hf1 : FOwns (w.alloc (.cells #[.iface 24 (.float .f64 t)] 20)).drew M n D := (hf.alloc _).drew
  have hl0 := fowns_look (w := w.drew) hf hs hat
  have hl1 := fowns_look hf1 hs hat
  have hne : Hid (some M ≠ v.ownBlock) := fun e => row_ne_map hrow hf e.symm
  have hrow1 : (w.alloc (.cells #[.iface 24 (.float .f64 t)] 20)).drew.ownsRow base 20 1 v k xs := hrow.alloc _
  have hnk : Hid (some Kb ≠ v.ownBlock) := row_ne_kw hrow hk
  have hk1 := (hk.only ho0 (fun h => h))
  have hlt : ∀ q, v.ownBlock = some q → base ≤ q := fun q hq => (hrow.lt q hq).1
  have ho1 : Only (fun i => i = M ∨ base ≤ i) w (w.alloc (.cells #[.iface 24 (.float .f64 t)] 20)).drew := ((Only.refl _ w).alloc _).drew
  clear hat
  obtain ⟨i0, hi, hz0, hz1, hz2⟩ := info_parts info20
  obtain ⟨va, vc, rfl, -⟩ := row_form hrow
  have ha := assert71 (.slice va k vc)
  go_enter Tryd.func9, Tryd.ntmps9
  go_region_law (refine step_append_own rfl (.tmp 17) (.tmp 20) 71 rfl base 20 i0 .nilIface 1 16 Tryd.underlying71 hi hz0 hz1 hz2 rfl (by decide) (.slice va k vc) k xs rfl hrow1 ⟨w.heap.size, 0, none⟩ 1 1 [.iface 24 (.float .f64 t)] rfl rfl (cell_one_new _ _ _) (by intro u hu; simp at hu; subst hu; rfl) (by unfold maxLen; omega) (by omega) (by simp; omega) ?_; intro v' w2 hrow2 hg2; have hf2 := hf1.kept hg2 hne.out; have k22 := (show KwIs w2 Kb S M from (hg2.block Kb hk1.lt hnk.out).trans hk1).cells.2; obtain ⟨w3, hrun3, hf3, hg3⟩ := World.ownsMap.update hf2 law9 Tryd.underlying64 hn hkey.out (rfl : anyElem (.iface 71 v') = some (.held (.iface 71 v'), [])); have hrow3 := hrow2.kept hg3 (.inr (fun e => row_ne_map hrow2 hf2 e)); have ho3 := (ho1.grown hg2 (fun q hq _ => .inr (hlt q hq))).grown hg3 (fun q hq _ => by cases hq; exact .inl rfl))
  all_goals go_end0
  all_goals exact ⟨rfl, _, hf3, hrow3, ho3⟩

end Go.Proofs.Qxb6605849aDoor
