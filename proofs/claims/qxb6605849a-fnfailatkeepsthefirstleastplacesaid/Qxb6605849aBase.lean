import Derived.Test.Qxb6605849aProg
import Derived.KernelRfl
import Derived.WalkKit
import Derived.WalkSpells
import Derived.Maps.OwnSet
import Derived.Deep.Draws
namespace Go.Proofs.Qxb6605849a
open Go.RowKit Go.Maps

/-- Outside the blocks of S (and outside new blocks) the world w' is as w was. -/
structure Only (S : Nat → Prop) (w w' : World) : Prop where
  os : w'.os = w.os
  tape : w'.tape = w.tape
  output : w'.output = w.output
  size : w.heap.size ≤ w'.heap.size
  block : ∀ k, k < w.heap.size → ¬ S k → w'.heap[k]? = w.heap[k]?

theorem Only.refl (S : Nat → Prop) (w : World) : Only S w w := ⟨rfl, rfl, rfl, Nat.le_refl _, fun _ _ _ => rfl⟩
theorem Only.trans {S : Nat → Prop} {a b c : World} (h : Only S a b) (k : Only S b c) : Only S a c :=
  ⟨k.os.trans h.os, k.tape.trans h.tape, k.output.trans h.output, Nat.le_trans h.size k.size,
    fun i hi hs => (k.block i (Nat.lt_of_lt_of_le hi h.size) hs).trans (h.block i hi hs)⟩
/-- The second step may also write what is new since the first world. -/
theorem Only.andThen {S T : Nat → Prop} {a b c : World} (h : Only S a b) (k : Only T b c) (hT : ∀ i, i < a.heap.size → T i → S i) : Only S a c :=
  ⟨k.os.trans h.os, k.tape.trans h.tape, k.output.trans h.output, Nat.le_trans h.size k.size,
    fun i hi hs => (k.block i (Nat.lt_of_lt_of_le hi h.size) (fun ht => hs (hT i hi ht))).trans (h.block i hi hs)⟩
theorem Only.mono {S T : Nat → Prop} {w w' : World} (h : Only S w w') (hST : ∀ i, S i → T i) : Only T w w' :=
  ⟨h.os, h.tape, h.output, h.size, fun k hk hs => h.block k hk (fun x => hs (hST k x))⟩
theorem Only.drew {S : Nat → Prop} {a w : World} (h : Only S a w) : Only S a w.drew := ⟨h.os, h.tape, h.output, h.size, h.block⟩
theorem Only.drewN {S : Nat → Prop} {a w : World} (h : Only S a w) (n : Nat) : Only S a (w.drewN n) := ⟨h.os, h.tape, h.output, h.size, h.block⟩
theorem Only.alloc {S : Nat → Prop} {a w : World} (h : Only S a w) (o : Obj) : Only S a (w.alloc o) :=
  h.trans ⟨rfl, rfl, rfl, by simp, fun k hk _ => Below.heap_alloc _ _ _ hk⟩
theorem Only.setCell {S : Nat → Prop} {a w : World} (h : Only S a w) {p : Addr} (hp : p.block < a.heap.size → S p.block) (u : Value) : Only S a (w.setCell p u) :=
  h.andThen (T := fun k => k = p.block) ⟨rfl, rfl, rfl, by simp [World.setCell], fun k _ hk => Below.heap_setCell _ _ _ _ hk⟩ (fun i hi e => by subst e; exact hp hi)
theorem Only.grown {S : Nat → Prop} {a w w' : World} {row : Option Nat} (h : Only S a w) (hg : w.grownBy w' row) (hr : ∀ k, row = some k → k < a.heap.size → S k) : Only S a w' :=
  h.andThen (T := fun k => row = some k) ⟨hg.os, hg.tape, hg.output, hg.size, fun k hk hs => hg.block k hk (fun e => hs e.symm)⟩ (fun i hi e => hr i e hi)
theorem Only.cell {S : Nat → Prop} {w w' : World} (h : Only S w w') {p : Addr} (hp : p.block < w.heap.size) (hs : ¬ S p.block) : w'.cell? p = w.cell? p := World.cell?_of_block (w := w) (h.block p.block hp hs)
theorem Only.frozen {S : Nat → Prop} {w w' : World} (h : Only S w w') {p : Addr} (hp : p.block < w.heap.size) (hs : ¬ S p.block) : w'.frozen? p = w.frozen? p := World.frozen?_of_block (w := w) (h.block p.block hp hs)
theorem Only.below {S : Nat → Prop} {w w' : World} (h : Only S w w') {B : Nat} (hB : B ≤ w.heap.size) (hS : ∀ k, k < B → ¬ S k) : Below B w w' :=
  ⟨h.os, h.tape, h.output, h.size, fun k hk => h.block k (Nat.lt_of_lt_of_le hk hB) (hS k hk)⟩
theorem Only.of_below {S : Nat → Prop} {w w' : World} {B : Nat} (h : Below B w w') (hS : ∀ k, k < w.heap.size → B ≤ k → S k) : Only S w w' :=
  ⟨h.os, h.tape, h.output, h.size, fun k hk hs => h.block k (Nat.lt_of_not_le (fun e => hs (hS k hk e)))⟩
abbrev nothing : Nat → Prop := fun _ => False

/-- The slice's first elements are the strings ss. -/
def StrsAt (w : World) (a : Option Addr) (ss : List ByteArray) : Prop :=
  ss = [] ∨ ∃ b off, a = some ⟨b, off, none⟩ ∧ b < w.heap.size ∧ ∀ j, j < ss.length → w.cell? ⟨b, off + j, none⟩ = some (.string (ss.getD j ByteArray.empty))

theorem StrsAt.only {S : Nat → Prop} {w w' : World} {a : Option Addr} {ss : List ByteArray} (h : StrsAt w a ss) (ho : Only S w w') (hs : ∀ b o t, a = some ⟨b, o, t⟩ → ¬ S b) : StrsAt w' a ss := by
  rcases h with h | ⟨b, off, rfl, hb, hc⟩
  · exact .inl h
  · exact .inr ⟨b, off, rfl, Nat.lt_of_lt_of_le hb ho.size, fun j hj => (ho.cell (p := ⟨b, off + j, none⟩) hb (hs b off none rfl)).trans (hc j hj)⟩

theorem StrsAt.at {w : World} {a : Option Addr} {ss : List ByteArray} (h : StrsAt w a ss) {k : Nat} (hk : k < ss.length) :
    ∃ b off, a = some ⟨b, off, none⟩ ∧ b < w.heap.size ∧ ∀ j, j < ss.length → w.cell? ⟨b, off + j, none⟩ = some (.string (ss.getD j ByteArray.empty)) := by
  rcases h with rfl | h
  · simp at hk
  · exact h

/-- The lengths' sum. -/
def lens (ss : List ByteArray) : Nat := (ss.map ByteArray.size).sum
theorem lens_take_succ (ss : List ByteArray) (k : Nat) (hk : k < ss.length) : lens (ss.take (k + 1)) = lens (ss.take k) + (ss.getD k ByteArray.empty).size := by
  unfold lens
  rw [List.take_add_one, List.map_append, List.sum_append]
  simp [List.getD, List.getElem?_eq_getElem hk]
theorem lens_take_le (ss : List ByteArray) (k : Nat) : lens (ss.take k) ≤ lens ss := by
  have : lens ss = lens (ss.take k) + lens (ss.drop k) := by
    unfold lens
    rw [← List.sum_append, ← List.map_append, List.take_append_drop]
  omega

end Go.Proofs.Qxb6605849a
