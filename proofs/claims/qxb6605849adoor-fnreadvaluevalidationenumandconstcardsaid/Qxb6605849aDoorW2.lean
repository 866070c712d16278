import Derived.Test.Qxb6605849aDoorW1
namespace Go.Proofs.Qxb6605849aDoor
open Go.RowKit Go.Maps Go.WideMaps

abbrev kLit (s : ByteArray) : Lit := .string s.data.toList
theorem law9 : Keyed Tryd.prog 9 := string_keyed Tryd.underlying9
theorem key_lit (s : ByteArray) : WideAt.IsKeyLit (kLit s) := trivial
/-- A map's element, told as the very value. -/
def anyElem (v : Value) : Option (DataW Value × List MemPlace) := some (.held v, [])
abbrev FOwns (w : World) (M n : Nat) (D : DataW Value) : Prop := w.ownsMap Tryd.prog 9 anyElem M n D
theorem fowns_only {S : Nat → Prop} {w w' : World} {b n : Nat} {D : DataW Value} (h : FOwns w b n D) (ho : Only S w w') (hs : ¬ S b) : FOwns w' b n D := by
  have hlt := h.lt
  obtain ⟨es, clock, hb, r⟩ := h
  exact ⟨es, clock, (ho.block b hlt hs).trans hb, r⟩
theorem fowns_made {w : World} {b : Nat} (h : w.heap[b]? = some (.map #[] 0)) : FOwns w b 0 (.map []) :=
  ⟨#[], 0, h, ⟨by simp, MapKept.stamped_empty 0, by simp⟩, Nat.le_refl _, rfl⟩

theorem zero20 (w : World) : (zeroValue 20).run Tryd.prog w = .ok .nilIface w := by kernel_rfl

theorem fowns_look {w : World} {b n : Nat} {D : DataW Value} (h : FOwns w b n D) {s : ByteArray} (hs : s.size ≤ maxLen) {v : Value} (hat : D.atKey (kLit s) (.held .nilIface) = .held v) :
    (Instr.lookup 64 (.map (some b)) (.string s) false).run Tryd.prog w = .ok v w := by
  obtain ⟨v', ps, hrun, hv⟩ := h.lookup law9 Tryd.underlying64 (zero20 w) (zd := .held .nilIface) (zp := []) rfl (keyOf_string_mk Tryd.underlying9 hs)
  rw [hat] at hv
  simp only [anyElem, Option.some.injEq, Prod.mk.injEq, DataW.held.injEq] at hv
  rw [hv.1] at hrun
  exact hrun
theorem fowns_look_ok {w : World} {b n : Nat} {D : DataW Value} (h : FOwns w b n D) {s : ByteArray} (hs : s.size ≤ maxLen) {v : Value} (hat : D.atKey (kLit s) (.held .nilIface) = .held v) {ok : Bool} (hh : has D (kLit s) = ok) :
    (Instr.lookup 64 (.map (some b)) (.string s) true).run Tryd.prog w = .ok (.tuple #[v, .bool ok]) w := by
  obtain ⟨v', ps, hrun, hv⟩ := h.look_ok law9 Tryd.underlying64 (zero20 w) (zd := .held .nilIface) (zp := []) rfl (keyOf_string_mk Tryd.underlying9 hs)
  rw [hat] at hv
  simp only [anyElem, Option.some.injEq, Prod.mk.injEq, DataW.held.injEq] at hv
  rw [hv.1, hh] at hrun
  exact hrun

/-- A keyword is set. -/
def SetPost (w : World) (M n : Nat) (D : DataW Value) (s : ByteArray) (v : Value) (e : Ending) (w' : World) : Prop :=
  e = .returned (.tuple #[]) ∧ FOwns w' M (n + 1) (D.put (kLit s) (.held v)) ∧ Only (fun i => i = M) w w'

theorem only_grown {w w' : World} {M : Nat} (h : w.grownBy w' (some M)) : Only (fun i => i = M) w w' :=
  (Only.refl _ w).grown h (fun k hk _ => by cases hk; rfl)

set_option maxRecDepth 100000 in
theorem set10 (Kb S M n : Nat) (D : DataW Value) (s t : ByteArray) (w : World) (hk : KwIs w Kb S M) (hf : FOwns w M n D) (hn : n < maxLen) (hs : s.size ≤ maxLen) :
    Calls Tryd.prog 10 #[.pointer (some ⟨Kb, 0, none⟩), .string s, .string t] w (SetPost w M n D s (.iface 9 (.string t))) := by
  have hkey : Hid (keyOf Tryd.prog 9 (.string s) = some (kLit s)) := keyOf_string_mk Tryd.underlying9 hs
  obtain ⟨k1, k2⟩ := hk.cells
  go_enter Tryd.func10, Tryd.ntmps10
  go_wp2_with (at_mapUpdate; refine wpList_mapUpdate_own _ rfl _ _ _ 64 rfl 9 20 law9 Tryd.underlying64 anyElem M n _ rfl hf hn _ _ _ rfl rfl hkey.out _ [] rfl ?_; intro w1 hf1 hg1)
  go_end0
  exact ⟨rfl, hf1, only_grown hg1⟩

set_option maxRecDepth 100000 in
theorem set11 (Kb S M n : Nat) (D : DataW Value) (s : ByteArray) (x : Nat) (w : World) (hk : KwIs w Kb S M) (hf : FOwns w M n D) (hn : n < maxLen) (hs : s.size ≤ maxLen) :
    Calls Tryd.prog 11 #[.pointer (some ⟨Kb, 0, none⟩), .string s, .float .f64 x] w (SetPost w M n D s (.iface 24 (.float .f64 x))) := by
  have hkey : Hid (keyOf Tryd.prog 9 (.string s) = some (kLit s)) := keyOf_string_mk Tryd.underlying9 hs
  obtain ⟨k1, k2⟩ := hk.cells
  go_enter Tryd.func11, Tryd.ntmps11
  go_wp2_with (at_mapUpdate; refine wpList_mapUpdate_own _ rfl _ _ _ 64 rfl 9 20 law9 Tryd.underlying64 anyElem M n _ rfl hf hn _ _ _ rfl rfl hkey.out _ [] rfl ?_; intro w1 hf1 hg1)
  go_end0
  exact ⟨rfl, hf1, only_grown hg1⟩

/-- The list under a keyword. -/
def ListPost (w : World) (M n : Nat) (D : DataW Value) (s : ByteArray) (base k : Nat) (xs : List Value) (e : Ending) (w' : World) : Prop :=
  e = .returned (.tuple #[]) ∧ ∃ v, FOwns w' M (n + 1) (D.put (kLit s) (.held (.iface 71 v))) ∧ w'.ownsRow base 20 1 v k xs ∧ Only (fun i => i = M ∨ base ≤ i) w w'

set_option maxRecDepth 100000 in
theorem set7 (Kb S M n base : Nat) (D : DataW Value) (s : ByteArray) (w : World) (hk : KwIs w Kb S M) (hf : FOwns w M n D) (hn : n < maxLen) (hs : s.size ≤ maxLen) (hb : base ≤ w.heap.size) :
    Calls Tryd.prog 7 #[.pointer (some ⟨Kb, 0, none⟩), .string s] w (ListPost w M n D s base 0 []) := by
  have hkey : Hid (keyOf Tryd.prog 9 (.string s) = some (kLit s)) := keyOf_string_mk Tryd.underlying9 hs
  obtain ⟨k1, k2⟩ := hk.cells
  have hf0 := hf.alloc (.cells #[] 20)
  have hM := hf.lt
  have hrow : (w.alloc (.cells #[] 20)).ownsRow base 20 1 (.slice (some ⟨w.heap.size, 0, none⟩) 0 0) 0 [] :=
    ⟨rfl, .inr ⟨w.heap.size, 0, #[], rfl, hb, heap_new _ _, Nat.le_refl _, Nat.zero_le _, rfl, rfl⟩⟩
  go_enter Tryd.func7, Tryd.ntmps7
  go_wp2_with (at_mapUpdate; refine wpList_mapUpdate_own _ rfl _ _ _ 64 rfl 9 20 law9 Tryd.underlying64 anyElem M n _ rfl hf0 hn _ _ _ rfl rfl hkey.out _ [] rfl ?_; intro w1 hf1 hg1)
  go_end0
  exact ⟨rfl, _, hf1, hrow.kept hg1 (.inr (by simp [Value.ownBlock]; omega)), ((Only.refl _ w).alloc _).grown hg1 (fun q hq _ => by cases hq; exact .inl rfl)⟩

end Go.Proofs.Qxb6605849aDoor
