import Derived.Test.Qxb6605849aWk2
namespace Go.Proofs.Qxb6605849a
open Go.RowKit Go.Maps Go.WideMaps

abbrev T : DataW Unit := .lit (.bool true)
abbrev kLit (s : ByteArray) : Lit := .string s.data.toList
theorem law9 : Keyed Try.prog 9 := string_keyed Try.underlying9

/-- Block B is an 'evaluated' whose members' map is m. -/
def EvIs (w : World) (B : Nat) (m : Option Nat) (x : Bool) (u : Int) : Prop :=
  w.heap[B]? = some (.cells #[.map m, .bool x, .int .i64 u, .map none] 60 (0, 0))
theorem EvIs.cells {w : World} {B : Nat} {m : Option Nat} {x : Bool} {u : Int} (h : EvIs w B m x u) :
    w.cell? ⟨B, 0, none⟩ = some (.map m) ∧ w.cell? ⟨B, 1, none⟩ = some (.bool x) ∧ w.cell? ⟨B, 2, none⟩ = some (.int .i64 u) ∧ w.cell? ⟨B, 3, none⟩ = some (.map none) ∧ w.frozen? ⟨B, 0, none⟩ = false := by
  unfold EvIs at h
  simp [World.cell?, World.frozen?, h]
theorem EvIs.lt {w : World} {B : Nat} {m : Option Nat} {x : Bool} {u : Int} (h : EvIs w B m x u) : B < w.heap.size := (Array.getElem?_eq_some_iff.1 h).1
theorem EvIs.set {w : World} {B : Nat} {m m' : Option Nat} {x : Bool} {u : Int} (h : EvIs w B m x u) : EvIs (w.setCell ⟨B, 0, none⟩ (.map m')) B m' x u := by
  unfold EvIs at h ⊢
  simp [World.setCell, Array.getElem?_modify, h]
theorem EvIs.only {S : Nat → Prop} {w w' : World} {B : Nat} {m : Option Nat} {x : Bool} {u : Int} (h : EvIs w B m x u) (ho : Only S w w') (hs : ¬ S B) : EvIs w' B m x u :=
  (ho.block B h.lt hs).trans h
theorem EvIs.grown {w w' : World} {B : Nat} {m : Option Nat} {x : Bool} {u : Int} {row : Option Nat} (h : EvIs w B m x u) (hg : w.grownBy w' row) (hs : some B ≠ row) : EvIs w' B m x u :=
  (hg.block B h.lt hs).trans h

abbrev Owns (w : World) (b n : Nat) (D : DataW Unit) : Prop := w.ownsMap Try.prog 9 (plainElem Try.prog 4) b n D
/-- The map m (nil: no entry) reads as D. -/
def MapIs (w : World) (m : Option Nat) (n : Nat) (D : DataW Unit) : Prop := (m = none ∧ D = .map []) ∨ ∃ b, m = some b ∧ Owns w b n D

theorem owns_ne {w : World} {B b n : Nat} {D : DataW Unit} {m : Option Nat} {x : Bool} {u : Int} (h : EvIs w B m x u) (ho : Owns w b n D) : B ≠ b := by
  rintro rfl
  obtain ⟨es, clock, hb, _⟩ := ho
  unfold EvIs at h
  rw [h] at hb
  cases hb

theorem new9 (m : Option Nat) (x : Bool) (u : Int) (w : World) :
    Calls Try.prog 9 #[.map m, .bool x, .int .i64 u] w fun e w' => e = .returned (.pointer (some ⟨w.heap.size, 0, none⟩)) ∧ w' = w.alloc (.cells #[.map m, .bool x, .int .i64 u, .map none] 60) := by
  go_enter Try.func9, Try.ntmps9
  go_wp2
  go_ret
  exact ⟨rfl, rfl⟩
theorem evIs_new (m : Option Nat) (x : Bool) (u : Int) (w : World) : EvIs (w.alloc (.cells #[.map m, .bool x, .int .i64 u, .map none] 60)) w.heap.size m x u := by
  show (w.heap.push _)[w.heap.size]? = _
  simp

def KeyPost (w : World) (B : Nat) (m : Option Nat) (x : Bool) (u : Int) (n : Nat) (D : DataW Unit) (s : ByteArray) (e : Ending) (w' : World) : Prop :=
  e = .returned (.tuple #[]) ∧ ∃ b, EvIs w' B (some b) x u ∧ Owns w' b (n + 1) (D.put (kLit s) T) ∧ Only (fun k => k = B ∨ m = some k) w w' ∧ (m = some b ∨ (m = none ∧ w.heap.size ≤ b))

set_option maxHeartbeats 400000 in
set_option maxRecDepth 100000 in
theorem key27 (B : Nat) (m : Option Nat) (x : Bool) (u : Int) (n : Nat) (D : DataW Unit) (s : ByteArray) (w : World) (hev : EvIs w B m x u) (hm : MapIs w m n D) (hn : n < maxLen) (hs : s.size ≤ maxLen) :
    Calls Try.prog 27 #[.pointer (some ⟨B, 0, none⟩), .string s] w (KeyPost w B m x u n D s) := by
  have hkey : keyOf Try.prog 9 (.string s) = some (kLit s) := keyOf_string_mk Try.underlying9 hs
  have hq := fun (w : World) (r : Option Nat) => run_eql_map_nil (P := Try.prog) w 28 9 4 r Try.underlying28
  have hmm := @run_makeMap Try.prog
  obtain ⟨c0, -, -, -, f0⟩ := hev.cells
  have hB := hev.lt
  rcases hm with ⟨rfl, rfl⟩ | ⟨b, rfl, hown⟩
  · have hne : B ≠ w.heap.size := Nat.ne_of_lt hev.lt
    have hsz : (w.setCell ⟨B, 0, none⟩ (.map (some w.heap.size))).heap.size = w.heap.size := by simp [World.setCell]
    have hown1 : Owns ((w.setCell ⟨B, 0, none⟩ (.map (some w.heap.size))).alloc (.map #[] 0)) w.heap.size n (.map []) := by
      have h := (World.ownsMap_made (w.setCell ⟨B, 0, none⟩ (.map (some w.heap.size))) Try.prog 9 (plainElem (H := Unit) Try.prog 4)).mono (Nat.zero_le n)
      rwa [hsz] at h
    have hev2 : EvIs ((w.setCell ⟨B, 0, none⟩ (.map (some w.heap.size))).alloc (.map #[] 0)) B (some w.heap.size) x u := (hev.set (m' := some w.heap.size)).only ((Only.refl nothing _).alloc _) id
    have ho2 := ((Only.refl (fun k => k = B ∨ none = some k) w).setCell (p := ⟨B, 0, none⟩) (fun _ => .inl rfl) (.map (some w.heap.size))).alloc (.map #[] 0)
    clear hsz
    go_enter Try.func27, Try.ntmps27
    go_wp2_with (first
      | (at_mapUpdate; refine wpList_mapUpdate_own _ rfl _ _ _ 28 rfl 9 4 law9 Try.underlying28 (plainElem (H := Unit) Try.prog 4) w.heap.size n _ rfl hown1 hn _ _ _ rfl rfl hkey _ [] (plainElem_bool Try.underlying4 true) ?_; intro w1 hown2 hgrow2)
      | go_in)
    go_end0
    exact ⟨rfl, _, hev2.grown hgrow2 (fun h => hne (Option.some.inj h)), hown2, ho2.grown hgrow2 (fun k hk hlt => by cases hk; exact absurd hlt (Nat.lt_irrefl _)), .inr ⟨rfl, Nat.le_refl _⟩⟩
  · have hne := owns_ne hev hown
    go_enter Try.func27, Try.ntmps27
    go_wp2_with (first
      | (at_mapUpdate; refine wpList_mapUpdate_own _ rfl _ _ _ 28 rfl 9 4 law9 Try.underlying28 (plainElem (H := Unit) Try.prog 4) b n _ rfl hown hn _ _ _ rfl rfl hkey _ [] (plainElem_bool Try.underlying4 true) ?_; intro w1 hown2 hgrow2)
      | go_in)
    go_end0
    exact ⟨rfl, b, hev.grown hgrow2 (fun h => hne (Option.some.inj h)), hown2, (Only.refl _ w).grown hgrow2 (fun k hk _ => .inr hk), .inl rfl⟩

theorem key10 (B : Nat) (m : Option Nat) (x : Bool) (u : Int) (n : Nat) (D : DataW Unit) (s : ByteArray) (w : World) (hev : EvIs w B m x u) (hm : MapIs w m n D) (hn : n < maxLen) (hs : s.size ≤ maxLen) :
    Calls Try.prog 10 #[.pointer (some ⟨B, 0, none⟩), .string s] w (KeyPost w B m x u n D s) := by
  go_enter Try.func10, Try.ntmps10
  go_wp2_with fail
  refine (key27 B m x u n D s w hev hm hn hs).mono ?_
  rintro e w' ⟨rfl, h⟩
  go_wp2
  go_end0
  exact ⟨rfl, h⟩

end Go.Proofs.Qxb6605849a
