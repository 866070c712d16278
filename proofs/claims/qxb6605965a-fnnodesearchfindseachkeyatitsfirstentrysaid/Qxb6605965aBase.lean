import Derived.Test.Qxb6605965aShelf
import Derived.KernelRfl
import Derived.WalkKit
import Derived.WalkSpells
import Derived.Maps.OwnSet
import Derived.Deep.Draws
import Derived.Deep.OwnRows
import Derived.Laws.CopyOwn
import Derived.Lib.Varint
import Derived.Lib.VarintDec
import Derived.Lib.Endian
import Derived.Lib.EndianBits
namespace Go.Proofs.Qxb6605965a
open Go.RowKit Go.Maps

/-- Outside the blocks of S (and outside new blocks) the world w' is as w was. -/
structure Only (S : Nat → Prop) (w w' : World) : Prop where
  os : w'.os = w.os
  tape : w'.tape = w.tape
  output : w'.output = w.output
  size : w.heap.size ≤ w'.heap.size
  block : ∀ k, k < w.heap.size → ¬ S k → w'.heap[k]? = w.heap[k]?

theorem Only.refl (S : Nat → Prop) (w : World) : Only S w w := ⟨rfl, rfl, rfl, Nat.le_refl _, fun _ _ _ => rfl⟩
theorem Only.trans {S : Nat → Prop} {a b c : World} (h : Only S a b) (k : Only S b c) : Only S a c :=
  ⟨k.os.trans h.os, k.tape.trans h.tape, k.output.trans h.output, Nat.le_trans h.size k.size,
    fun i hi hs => (k.block i (Nat.lt_of_lt_of_le hi h.size) hs).trans (h.block i hi hs)⟩
/-- The second step may also write what is new since the first world. -/
theorem Only.andThen {S T : Nat → Prop} {a b c : World} (h : Only S a b) (k : Only T b c) (hT : ∀ i, i < a.heap.size → T i → S i) : Only S a c :=
  ⟨k.os.trans h.os, k.tape.trans h.tape, k.output.trans h.output, Nat.le_trans h.size k.size,
    fun i hi hs => (k.block i (Nat.lt_of_lt_of_le hi h.size) (fun ht => hs (hT i hi ht))).trans (h.block i hi hs)⟩
theorem Only.mono {S T : Nat → Prop} {w w' : World} (h : Only S w w') (hST : ∀ i, S i → T i) : Only T w w' :=
  ⟨h.os, h.tape, h.output, h.size, fun k hk hs => h.block k hk (fun x => hs (hST k x))⟩
theorem Only.drew {S : Nat → Prop} {a w : World} (h : Only S a w) : Only S a w.drew := ⟨h.os, h.tape, h.output, h.size, h.block⟩
theorem Only.drewN {S : Nat → Prop} {a w : World} (h : Only S a w) (n : Nat) : Only S a (w.drewN n) := ⟨h.os, h.tape, h.output, h.size, h.block⟩
theorem Only.alloc {S : Nat → Prop} {a w : World} (h : Only S a w) (o : Obj) : Only S a (w.alloc o) :=
  h.trans ⟨rfl, rfl, rfl, by simp, fun k hk _ => Below.heap_alloc _ _ _ hk⟩
theorem Only.setCell {S : Nat → Prop} {a w : World} (h : Only S a w) {p : Addr} (hp : p.block < a.heap.size → S p.block) (u : Value) : Only S a (w.setCell p u) :=
  h.andThen (T := fun k => k = p.block) ⟨rfl, rfl, rfl, by simp [World.setCell], fun k _ hk => Below.heap_setCell _ _ _ _ hk⟩ (fun i hi e => by subst e; exact hp hi)
theorem Only.grown {S : Nat → Prop} {a w w' : World} {row : Option Nat} (h : Only S a w) (hg : w.grownBy w' row) (hr : ∀ k, row = some k → k < a.heap.size → S k) : Only S a w' :=
  h.andThen (T := fun k => row = some k) ⟨hg.os, hg.tape, hg.output, hg.size, fun k hk hs => hg.block k hk (fun e => hs e.symm)⟩ (fun i hi e => hr i e hi)
theorem Only.cell {S : Nat → Prop} {w w' : World} (h : Only S w w') {p : Addr} (hp : p.block < w.heap.size) (hs : ¬ S p.block) : w'.cell? p = w.cell? p := World.cell?_of_block (w := w) (h.block p.block hp hs)
theorem Only.frozen {S : Nat → Prop} {w w' : World} (h : Only S w w') {p : Addr} (hp : p.block < w.heap.size) (hs : ¬ S p.block) : w'.frozen? p = w.frozen? p := World.frozen?_of_block (w := w) (h.block p.block hp hs)
theorem Only.below {S : Nat → Prop} {w w' : World} (h : Only S w w') {B : Nat} (hB : B ≤ w.heap.size) (hS : ∀ k, k < B → ¬ S k) : Below B w w' :=
  ⟨h.os, h.tape, h.output, h.size, fun k hk => h.block k (Nat.lt_of_lt_of_le hk hB) (hS k hk)⟩
theorem Only.of_below {S : Nat → Prop} {w w' : World} {B : Nat} (h : Below B w w') (hS : ∀ k, k < w.heap.size → B ≤ k → S k) : Only S w w' :=
  ⟨h.os, h.tape, h.output, h.size, fun k hk hs => h.block k (Nat.lt_of_not_le (fun e => hs (hS k hk e)))⟩
abbrev nothing : Nat → Prop := fun _ => False


/-- The slice's first bytes are l. -/
def BA (w : World) (a : Option Addr) (l : List UInt8) : Prop :=
  l.length = 0 ∨ ∃ b off, a = some ⟨b, off, none⟩ ∧ b < w.heap.size ∧ ∀ j, j < l.length → w.cell? ⟨b, off + j, none⟩ = some (.int .u8 (l.getD j 0).toNat)
theorem BA.only {S : Nat → Prop} {w w' : World} {a : Option Addr} {l : List UInt8} (h : BA w a l) (ho : Only S w w') (hs : ∀ b o t, a = some ⟨b, o, t⟩ → ¬ S b) : BA w' a l := by
  rcases h with h | ⟨b, off, rfl, hb, hc⟩
  · exact .inl h
  · exact .inr ⟨b, off, rfl, Nat.lt_of_lt_of_le hb ho.size, fun j hj => (ho.cell (p := ⟨b, off + j, none⟩) hb (hs b off none rfl)).trans (hc j hj)⟩
theorem BA.at {w : World} {a : Option Addr} {l : List UInt8} (h : BA w a l) {k : Nat} (hk : k < l.length) : ∃ b off, a = some ⟨b, off, none⟩ ∧ b < w.heap.size ∧ ∀ j, j < l.length → w.cell? ⟨b, off + j, none⟩ = some (.int .u8 (l.getD j 0).toNat) := by
  rcases h with h | h
  · exact absurd hk (by omega)
  · exact h

abbrev Ent : Type := List UInt8 × List UInt8
abbrev d0 : Ent := ([], [])
/-- One entry's two cells. -/
def EntIs (w : World) (p : Addr) (q : Addr) (e : Ent) : Prop :=
  ∃ ka kc va vc, w.cell? p = some (.slice ka e.1.length kc) ∧ w.cell? q = some (.slice va e.2.length vc) ∧ BA w ka e.1 ∧ BA w va e.2 ∧ (ka = none → e.1.length = 0) ∧ (va = none → e.2.length = 0)
def EntsAt (w : World) (a : Option Addr) (es : List Ent) : Prop :=
  es.length = 0 ∨ ∃ b off, a = some ⟨b, off, none⟩ ∧ b < w.heap.size ∧ ∀ j, j < es.length → EntIs w ⟨b, off + j * 2, none⟩ ⟨b, off + j * 2 + 1, none⟩ (es.getD j d0)
theorem EntsAt.only {w w' : World} {a : Option Addr} {es : List Ent} (h : EntsAt w a es) (ho : Only nothing w w') : EntsAt w' a es := by
  rcases h with h | ⟨b, off, rfl, hb, hc⟩
  · exact .inl h
  · refine .inr ⟨b, off, rfl, Nat.lt_of_lt_of_le hb ho.size, fun j hj => ?_⟩
    obtain ⟨ka, kc, va, vc, h1, h2, h3, h4, h5, h6⟩ := hc j hj
    exact ⟨ka, kc, va, vc, (ho.cell (p := ⟨b, off + j * 2, none⟩) hb (fun h => h)).trans h1, (ho.cell (p := ⟨b, off + j * 2 + 1, none⟩) hb (fun h => h)).trans h2, h3.only ho (fun _ _ _ _ h => h), h4.only ho (fun _ _ _ _ h => h), h5, h6⟩
theorem EntsAt.at {w : World} {a : Option Addr} {es : List Ent} (h : EntsAt w a es) {k : Nat} (hk : k < es.length) :
    ∃ b off ka kc va vc, a = some ⟨b, off, none⟩ ∧ b < w.heap.size ∧ w.cell? ⟨b, off + k * 2, none⟩ = some (.slice ka (es.getD k d0).1.length kc) ∧ w.cell? ⟨b, off + k * 2 + 1, none⟩ = some (.slice va (es.getD k d0).2.length vc) ∧ BA w ka (es.getD k d0).1 ∧ BA w va (es.getD k d0).2 ∧ (ka = none → (es.getD k d0).1.length = 0) ∧ (va = none → (es.getD k d0).2.length = 0) := by
  rcases h with h | ⟨b, off, rfl, hb, hc⟩
  · exact absurd hk (by omega)
  · obtain ⟨ka, kc, va, vc, h1, h2, h3, h4, h5, h6⟩ := hc k hk
    exact ⟨b, off, ka, kc, va, vc, rfl, hb, h1, h2, h3, h4, h5, h6⟩

/-- A row of bytes of the call's own. -/
def Row (w : World) (g M : Nat) (f : Nat → UInt8) : Prop := w.rowIs g 5 M (fun i => .int .u8 (f i).toNat)
/-- f with the bytes l laid at o. -/
def lay (f : Nat → UInt8) (o : Nat) (l : List UInt8) : Nat → UInt8 := fun i => if o ≤ i ∧ i < o + l.length then l.getD (i - o) 0 else f i
/-- The bytes l lie at o. -/
def Has (f : Nat → UInt8) (o : Nat) (l : List UInt8) : Prop := ∀ j, j < l.length → f (o + j) = l.getD j 0
theorem Has.lay_self (f : Nat → UInt8) (o : Nat) (l : List UInt8) : Has (lay f o l) o l := fun j hj => by
  unfold lay
  rw [if_pos ⟨by omega, by omega⟩]
  congr 1
  omega
theorem Has.keep {f : Nat → UInt8} {o : Nat} {l : List UInt8} (h : Has f o l) {o' : Nat} {l' : List UInt8} (hd : o + l.length ≤ o' ∨ o' + l'.length ≤ o) : Has (lay f o' l') o l := fun j hj => by
  unfold lay
  rw [if_neg (by omega)]
  exact h j hj
theorem Has.append {f : Nat → UInt8} {o : Nat} {l l' : List UInt8} (h : Has f o l) (h' : Has f (o + l.length) l') : Has f o (l ++ l') := fun j hj => by
  rw [List.length_append] at hj
  by_cases h1 : j < l.length
  · rw [h j h1]
    simp [List.getD, List.getElem?_append_left h1]
  · have h2 := h' (j - l.length) (by omega)
    have e : o + l.length + (j - l.length) = o + j := by omega
    rw [e] at h2
    rw [h2]
    simp [List.getD, List.getElem?_append_right (Nat.le_of_not_lt h1)]
theorem Has.left {f : Nat → UInt8} {o : Nat} {l l' : List UInt8} (h : Has f o (l ++ l')) : Has f o l := fun j hj => by
  rw [h j (by rw [List.length_append]; omega)]
  simp [List.getD, List.getElem?_append_left hj]
theorem Has.right {f : Nat → UInt8} {o : Nat} {l l' : List UInt8} (h : Has f o (l ++ l')) : Has f (o + l.length) l' := fun j hj => by
  have h2 := h (l.length + j) (by rw [List.length_append]; omega)
  have e : o + (l.length + j) = o + l.length + j := by omega
  rw [e] at h2
  rw [h2]
  simp [List.getD, List.getElem?_append_right (Nat.le_add_right l.length j)]
theorem Row.lt {w : World} {g M : Nat} {f : Nat → UInt8} (h : Row w g M f) : g < w.heap.size := World.rowIs.lt h
theorem Row.only {S : Nat → Prop} {w w' : World} {g M : Nat} {f : Nat → UInt8} (h : Row w g M f) (ho : Only S w w') (hs : ¬ S g) : Row w' g M f := World.rowIs.of_block h (ho.block g h.lt hs)
theorem Row.cell {w : World} {g M : Nat} {f : Nat → UInt8} (h : Row w g M f) {i : Nat} (hi : i < M) : w.cell? ⟨g, i, none⟩ = some (.int .u8 (f i).toNat) := World.rowIs.cell h hi
theorem Row.frozen {w : World} {g M : Nat} {f : Nat → UInt8} (h : Row w g M f) (i : Nat) : w.frozen? ⟨g, i, none⟩ = false := World.rowIs.frozen h i
theorem Row.congr {w : World} {g M : Nat} {f f' : Nat → UInt8} (h : Row w g M f) (e : ∀ i, i < M → f i = f' i) : Row w g M f' := World.rowIs.congr h (fun i hi => by rw [e i hi])
theorem Row.set {w : World} {g M : Nat} {f : Nat → UInt8} (h : Row w g M f) (i : Nat) (v : UInt8) : Row (w.setCell ⟨g, i, none⟩ (.int .u8 v.toNat)) g M (lay f i [v]) := by
  refine World.rowIs.congr (World.rowIs.set h i (.int .u8 v.toNat)) fun j hj => ?_
  unfold lay
  by_cases e : j = i
  · subst e; simp
  · rw [if_neg e, if_neg (by simp; omega)]
theorem lay_snoc (f : Nat → UInt8) (o : Nat) (l : List UInt8) (v : UInt8) : lay (lay f o l) (o + l.length) [v] = lay f o (l ++ [v]) := by
  funext i
  unfold lay
  simp only [List.length_append, List.length_singleton]
  by_cases h1 : i = o + l.length
  · subst h1
    rw [if_pos ⟨by omega, by omega⟩, if_pos ⟨by omega, by omega⟩]
    simp [List.getD]
  · rw [if_neg (by omega)]
    by_cases h2 : o ≤ i ∧ i < o + l.length
    · rw [if_pos h2, if_pos ⟨h2.1, by omega⟩]
      simp [List.getD, List.getElem?_append_left (show i - o < l.length by omega)]
    · rw [if_neg h2, if_neg (by omega)]

end Go.Proofs.Qxb6605965a
