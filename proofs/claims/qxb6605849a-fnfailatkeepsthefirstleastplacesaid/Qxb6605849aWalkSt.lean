import Derived.Test.Qxb6605849aClone
namespace Go.Proofs.Qxb6605849a
open Go.RowKit Go.Maps

abbrev np : Value := .pointer none
abbrev ns : Value := .slice none 0 0
def walkObj (p er ep : Value) : Obj := .cells #[np, np, ns, ns, ns, p, ns, .map none, .nilIface, er, ep, .bool false, ns, .map none, .bool false, ns, .map none, .map none, .nilIface, .bool false] 77 (0, 0)
def WkIs (w : World) (B : Nat) (p er ep : Value) : Prop := w.heap[B]? = some (walkObj p er ep)
theorem WkIs.cells {w : World} {B : Nat} {p er ep : Value} (h : WkIs w B p er ep) :
    w.cell? ⟨B, 5, none⟩ = some p ∧ w.cell? ⟨B, 9, none⟩ = some er ∧ w.cell? ⟨B, 10, none⟩ = some ep ∧ w.frozen? ⟨B, 5, none⟩ = false ∧ w.frozen? ⟨B, 9, none⟩ = false ∧ w.frozen? ⟨B, 10, none⟩ = false := by
  unfold WkIs walkObj at h
  simp [World.cell?, World.frozen?, h]
theorem WkIs.lt {w : World} {B : Nat} {p er ep : Value} (h : WkIs w B p er ep) : B < w.heap.size := (Array.getElem?_eq_some_iff.1 h).1
theorem WkIs.setP {w : World} {B : Nat} {p er ep : Value} (h : WkIs w B p er ep) (p' : Value) : WkIs (w.setCell ⟨B, 5, none⟩ p') B p' er ep := by
  unfold WkIs walkObj at h ⊢
  simp [World.setCell, Array.getElem?_modify, h]
theorem WkIs.setE {w : World} {B : Nat} {p er ep : Value} (h : WkIs w B p er ep) (e' ep' : Value) : WkIs ((w.setCell ⟨B, 9, none⟩ e').setCell ⟨B, 10, none⟩ ep') B p e' ep' := by
  unfold WkIs walkObj at h ⊢
  simp [World.setCell, Array.getElem?_modify, h]
theorem WkIs.only {S : Nat → Prop} {w w' : World} {B : Nat} {p er ep : Value} (h : WkIs w B p er ep) (ho : Only S w w') (hs : ¬ S B) : WkIs w' B p er ep := (ho.block B h.lt hs).trans h

def fI (ps : List Elt) : Nat → Value := fun j => .int .i64 (ps.getD j dE).1
def fS (ps : List Elt) : Nat → Value := fun j => .string (ps.getD j dE).2

/-- The walk's own places: none, or a row of their own. -/
def PlIs (w : World) (B : Nat) (pa : Option Addr) (ps : List Elt) : Prop := (pa = none ∧ ps = []) ∨ ∃ PB, pa = some ⟨PB, 0, none⟩ ∧ B < PB ∧ PairRow w PB 79 ps.length (fI ps) (fS ps)
theorem PlIs.path {w : World} {B : Nat} {pa : Option Addr} {ps : List Elt} (h : PlIs w B pa ps) : PathAt w pa ps := by
  rcases h with ⟨rfl, rfl⟩ | ⟨PB, rfl, _, hr⟩
  · exact .inl rfl
  · exact PairRow.at hr
theorem PlIs.nil {w : World} {B : Nat} {pa : Option Addr} {ps : List Elt} (h : PlIs w B pa ps) (e : pa = none) : ps.length = 0 := by
  rcases h with ⟨_, rfl⟩ | ⟨PB, h, _⟩
  · rfl
  · rw [e] at h; cases h
theorem PlIs.only {S : Nat → Prop} {w w' : World} {B : Nat} {pa : Option Addr} {ps : List Elt} (h : PlIs w B pa ps) (ho : Only S w w') (hs : ∀ b, B < b → ¬ S b) : PlIs w' B pa ps := by
  rcases h with h | ⟨PB, rfl, hB, hr⟩
  · exact .inl h
  · exact .inr ⟨PB, rfl, hB, World.rowIs.of_block hr (ho.block PB (World.rowIs.lt hr) (hs PB hB))⟩

/-- The failure noted, by its id and its places. -/
def ErrIs (w : World) (B : Nat) (pa : Option Addr) (er : Value) (ea : Option Addr) (en : Nat) (st : Option (Int × List Elt)) : Prop :=
  (st = none ∧ er = .nilIface ∧ en = 0 ∧ ea = none) ∨
  ∃ id qs X, st = some (id, qs) ∧ er = .iface 81 (.pointer (some ⟨X, 0, none⟩)) ∧ w.heap[X]? = some (.cells #[.string ByteArray.empty, .int .i64 id] 83 (0, 0)) ∧ B < X ∧ en = qs.length ∧ qs.length ≤ 1048576 ∧ PathAt w ea qs ∧ (ea = none → en = 0) ∧
    (∀ b o t, ea = some ⟨b, o, t⟩ → B < b ∧ b < w.heap.size ∧ ∀ b' o' t', pa = some ⟨b', o', t'⟩ → b ≠ b')
theorem PathAt.only {S : Nat → Prop} {w w' : World} {a : Option Addr} {ps : List Elt} (h : PathAt w a ps) (ho : Only S w w') (hs : ∀ b o t, a = some ⟨b, o, t⟩ → ¬ S b) : PathAt w' a ps := PairsAt.only h ho hs
theorem ErrIs.only {S : Nat → Prop} {w w' : World} {B : Nat} {pa : Option Addr} {er : Value} {ea : Option Addr} {en : Nat} {st : Option (Int × List Elt)} (h : ErrIs w B pa er ea en st) (ho : Only S w w') (hs : ∀ b, B < b → ¬ S b) : ErrIs w' B pa er ea en st := by
  rcases h with h | ⟨id, qs, X, h1, h2, h3, h4, h5, h6, h7, h8, h9⟩
  · exact .inl h
  · exact .inr ⟨id, qs, X, h1, h2, (ho.block X (Array.getElem?_eq_some_iff.1 h3).1 (hs X h4)).trans h3, h4, h5, h6, PathAt.only h7 ho (fun b o t e => hs b (h9 b o t e).1), h8, fun b o t e => ⟨(h9 b o t e).1, Nat.lt_of_lt_of_le (h9 b o t e).2.1 ho.size, (h9 b o t e).2.2⟩⟩

theorem ErrIs.newPa {w : World} {B : Nat} {pa pa' : Option Addr} {er : Value} {ea : Option Addr} {en : Nat} {st : Option (Int × List Elt)} (h : ErrIs w B pa er ea en st) (hs : ∀ b o t, ea = some ⟨b, o, t⟩ → ∀ b' o' t', pa' = some ⟨b', o', t'⟩ → b ≠ b') : ErrIs w B pa' er ea en st := by
  rcases h with h | ⟨id, qs, X, h1, h2, h3, h4, h5, h6, h7, h8, h9⟩
  · exact .inl h
  · exact .inr ⟨id, qs, X, h1, h2, h3, h4, h5, h6, h7, h8, fun b o t e => ⟨(h9 b o t e).1, (h9 b o t e).2.1, hs b o t e⟩⟩
theorem ErrIs.ealt {w : World} {B : Nat} {pa : Option Addr} {er : Value} {ea : Option Addr} {en : Nat} {st : Option (Int × List Elt)} (h : ErrIs w B pa er ea en st) {b o : Nat} {t : Option Nat} (e : ea = some ⟨b, o, t⟩) : b < w.heap.size := by
  rcases h with ⟨_, _, _, h⟩ | ⟨id, qs, X, h1, h2, h3, h4, h5, h6, h7, h8, h9⟩
  · rw [h] at e; cases e
  · exact (h9 b o t e).2.1

/-- The walk stands at ps and has noted st. -/
def WalkSt (w : World) (B : Nat) (ps : List Elt) (st : Option (Int × List Elt)) : Prop :=
  ps.length ≤ 1048576 ∧ ∃ pa pc er ea en ec, WkIs w B (.slice pa ps.length pc) er (.slice ea en ec) ∧ PlIs w B pa ps ∧ ErrIs w B pa er ea en st
theorem WalkSt.lt {w : World} {B : Nat} {ps : List Elt} {st : Option (Int × List Elt)} (h : WalkSt w B ps st) : B < w.heap.size := by
  obtain ⟨_, _, _, _, _, _, _, h, _⟩ := h
  exact h.lt
theorem WalkSt.only {S : Nat → Prop} {w w' : World} {B : Nat} {ps : List Elt} {st : Option (Int × List Elt)} (h : WalkSt w B ps st) (ho : Only S w w') (hs : ∀ b, B ≤ b → ¬ S b) : WalkSt w' B ps st := by
  obtain ⟨h0, pa, pc, er, ea, en, ec, h1, h2, h3⟩ := h
  exact ⟨h0, pa, pc, er, ea, en, ec, h1.only ho (hs B (Nat.le_refl _)), h2.only ho (fun b hb => hs b (Nat.le_of_lt hb)), h3.only ho (fun b hb => hs b (Nat.le_of_lt hb))⟩

def NewWalkPost (w : World) (e : Ending) (w' : World) : Prop :=
  e = .returned (.pointer (some ⟨w.heap.size, 0, none⟩)) ∧ WalkSt w' w.heap.size [] none ∧ Only nothing w w'
set_option maxRecDepth 100000 in
theorem new16 (w : World) : Calls Try.prog 16 #[] w (NewWalkPost w) := by
  go_enter Try.func16, Try.ntmps16
  go_wp2
  go_ret
  refine ⟨rfl, ⟨by simp, none, 0, .nilIface, none, 0, 0, ?_, .inl ⟨rfl, rfl⟩, .inl ⟨rfl, rfl, rfl, rfl⟩⟩, (Only.refl _ w).alloc _⟩
  show (w.heap.push _)[w.heap.size]? = _
  simp [walkObj]

/-- A row of one-cell elements. -/
def RowAt (w : World) (a : Option Addr) (n : Nat) (f : Nat → Value) : Prop := n = 0 ∨ ∃ b off, a = some ⟨b, off, none⟩ ∧ b < w.heap.size ∧ ∀ j, j < n → w.cell? ⟨b, off + j, none⟩ = some (f j)
theorem RowAt.only {S : Nat → Prop} {w w' : World} {a : Option Addr} {n : Nat} {f : Nat → Value} (h : RowAt w a n f) (ho : Only S w w') (hs : ∀ b o t, a = some ⟨b, o, t⟩ → ¬ S b) : RowAt w' a n f := by
  rcases h with h | ⟨b, off, rfl, hb, hc⟩
  · exact .inl h
  · exact .inr ⟨b, off, rfl, Nat.lt_of_lt_of_le hb ho.size, fun j hj => (ho.cell (p := ⟨b, off + j, none⟩) hb (hs b off none rfl)).trans (hc j hj)⟩
theorem RowAt.at {w : World} {a : Option Addr} {n : Nat} {f : Nat → Value} (h : RowAt w a n f) {k : Nat} (hk : k < n) : ∃ b off, a = some ⟨b, off, none⟩ ∧ b < w.heap.size ∧ ∀ j, j < n → w.cell? ⟨b, off + j, none⟩ = some (f j) := by
  rcases h with rfl | h
  · exact absurd hk (Nat.not_lt_zero _)
  · exact h

end Go.Proofs.Qxb6605849a
