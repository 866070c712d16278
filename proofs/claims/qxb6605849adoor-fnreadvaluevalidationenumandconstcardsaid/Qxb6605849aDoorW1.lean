import Derived.Test.Qxb6605849aDoorFloat
import Derived.Maps.OwnSet
import Derived.Deep.QuietTactic
import Derived.BigQuiet
namespace Go.Proofs.Qxb6605849aDoor
open Go.RowKit Go.Maps Go.WideMaps

abbrev np : Value := .pointer none
abbrev es : Value := .string ByteArray.empty
/-- The schema's block: its constant, its enum, its draft. -/
def schObj (c e : Option Addr) (d : Int) : Obj :=
  .cells #[np, np, es, es, .bool false, np, np, .map none, es, np, np, np, .pointer c, .pointer e, np, np, np, np, np, np, .int .i16 d, .bool false, .int .u8 0, .int .u8 0, .bool false, .bool false, .bool false, .bool false] 63 (0, 0)
def SchIs (w : World) (S : Nat) (c e : Option Addr) (d : Int) : Prop := w.heap[S]? = some (schObj c e d)
theorem SchIs.cells {w : World} {S : Nat} {c e : Option Addr} {d : Int} (h : SchIs w S c e d) :
    w.cell? ⟨S, 12, none⟩ = some (.pointer c) ∧ w.cell? ⟨S, 13, none⟩ = some (.pointer e) ∧ w.cell? ⟨S, 20, none⟩ = some (.int .i16 d) ∧ w.cell? ⟨S, 22, none⟩ = some (.int .u8 0) ∧ w.frozen? ⟨S, 12, none⟩ = false ∧ w.frozen? ⟨S, 13, none⟩ = false := by
  unfold SchIs schObj at h
  simp [World.cell?, World.frozen?, h]
theorem SchIs.lt {w : World} {S : Nat} {c e : Option Addr} {d : Int} (h : SchIs w S c e d) : S < w.heap.size := (Array.getElem?_eq_some_iff.1 h).1
theorem SchIs.setC {w : World} {S : Nat} {c e : Option Addr} {d : Int} (h : SchIs w S c e d) (c' : Option Addr) : SchIs (w.setCell ⟨S, 12, none⟩ (.pointer c')) S c' e d := by
  unfold SchIs schObj at h ⊢
  simp [World.setCell, Array.getElem?_modify, h]
theorem SchIs.setE {w : World} {S : Nat} {c e : Option Addr} {d : Int} (h : SchIs w S c e d) (e' : Option Addr) : SchIs (w.setCell ⟨S, 13, none⟩ (.pointer e')) S c e' d := by
  unfold SchIs schObj at h ⊢
  simp [World.setCell, Array.getElem?_modify, h]
theorem SchIs.only {S0 : Nat → Prop} {w w' : World} {S : Nat} {c e : Option Addr} {d : Int} (h : SchIs w S c e d) (ho : Only S0 w w') (hs : ¬ S0 S) : SchIs w' S c e d := (ho.block S h.lt hs).trans h

/-- The keywords' block. -/
def KwIs (w : World) (Kb S M : Nat) : Prop := w.heap[Kb]? = some (.cells #[np, .pointer (some ⟨S, 0, none⟩), .map (some M), np, .int .u16 0] 70 (0, 0))
theorem KwIs.cells {w : World} {Kb S M : Nat} (h : KwIs w Kb S M) : w.cell? ⟨Kb, 1, none⟩ = some (.pointer (some ⟨S, 0, none⟩)) ∧ w.cell? ⟨Kb, 2, none⟩ = some (.map (some M)) := by
  unfold KwIs at h
  simp [World.cell?, h]
theorem KwIs.lt {w : World} {Kb S M : Nat} (h : KwIs w Kb S M) : Kb < w.heap.size := (Array.getElem?_eq_some_iff.1 h).1
theorem KwIs.only {S0 : Nat → Prop} {w w' : World} {Kb S M : Nat} (h : KwIs w Kb S M) (ho : Only S0 w w') (hs : ¬ S0 Kb) : KwIs w' Kb S M := (ho.block Kb h.lt hs).trans h

/-- The enum's block: its values, its set of strings. -/
def EnIs (w : World) (E : Nat) (v : Value) (m : Option Nat) : Prop :=
  w.heap[E]? = some (.cells #[v, .map m, .int .i64 0, .int .i64 0, .int .i64 0, .int .i64 0, .int .i64 0, .int .i64 0, .int .i64 0, .int .i64 0, .int .i64 0] 76 (0, 0))
theorem EnIs.cells {w : World} {E : Nat} {v : Value} {m : Option Nat} (h : EnIs w E v m) : w.cell? ⟨E, 0, none⟩ = some v ∧ w.cell? ⟨E, 1, none⟩ = some (.map m) ∧ w.frozen? ⟨E, 1, none⟩ = false := by
  unfold EnIs at h
  simp [World.cell?, World.frozen?, h]
theorem EnIs.lt {w : World} {E : Nat} {v : Value} {m : Option Nat} (h : EnIs w E v m) : E < w.heap.size := (Array.getElem?_eq_some_iff.1 h).1
theorem EnIs.set {w : World} {E : Nat} {v : Value} {m : Option Nat} (h : EnIs w E v m) (m' : Option Nat) : EnIs (w.setCell ⟨E, 1, none⟩ (.map m')) E v m' := by
  unfold EnIs at h ⊢
  simp [World.setCell, Array.getElem?_modify, h]
theorem EnIs.only {S0 : Nat → Prop} {w w' : World} {E : Nat} {v : Value} {m : Option Nat} (h : EnIs w E v m) (ho : Only S0 w w') (hs : ¬ S0 E) : EnIs w' E v m := (ho.block E h.lt hs).trans h

theorem heap_new (w : World) (o : Obj) : (w.alloc o).heap[w.heap.size]? = some o := by
  show (w.heap.push o)[w.heap.size]? = _
  simp

theorem heap_at {w : World} {o : Obj} {k : Nat} (h : k = w.heap.size) : (w.alloc o).heap[k]? = some o := by
  subst h; exact heap_new w o

/-- What ZZnewKeywords leaves. -/
def NewPost (w : World) (d : Int) (e : Ending) (w' : World) : Prop :=
  e = .returned (.pointer (some ⟨w.heap.size + 2, 0, none⟩)) ∧ SchIs w' w.heap.size none none d ∧ w'.heap[w.heap.size + 1]? = some (.map #[] 0) ∧ KwIs w' (w.heap.size + 2) w.heap.size (w.heap.size + 1) ∧ Only nothing w w' ∧ w'.heap.size = w.heap.size + 3

set_option maxRecDepth 100000 in
theorem new6 (d : Int) (w : World) : Calls Tryd.prog 6 #[.int .i16 d] w (NewPost w d) := by
  have hmm := @run_makeMap Tryd.prog
  go_enter Tryd.func6, Tryd.ntmps6
  go_wp2
  go_ret
  refine ⟨rfl, ?_, ?_, ?_, (((Only.refl _ w).alloc _).alloc _).alloc _, by simp⟩
  · unfold SchIs
    rw [Below.heap_alloc _ _ _ (by simp; omega), Below.heap_alloc _ _ _ (by simp), heap_new]
    rfl
  · rw [Below.heap_alloc _ _ _ (by simp)]
    exact heap_at (by simp)
  · exact heap_at (by simp)

set_option maxRecDepth 100000 in
theorem types17 (Kb S M : Nat) (c e : Option Addr) (d : Int) (w : World) (hk : KwIs w Kb S M) (hs : SchIs w S c e d) :
    Calls Tryd.prog 17 #[.pointer (some ⟨Kb, 0, none⟩)] w fun e w' => e = .returned (.int .u8 0) ∧ w' = w := by
  obtain ⟨k1, k2⟩ := hk.cells
  obtain ⟨s12, s13, s20, s22, -, -⟩ := hs.cells
  go_enter Tryd.func17, Tryd.ntmps17
  go_wp2
  go_ret
  exact ⟨rfl, rfl⟩

end Go.Proofs.Qxb6605849aDoor
