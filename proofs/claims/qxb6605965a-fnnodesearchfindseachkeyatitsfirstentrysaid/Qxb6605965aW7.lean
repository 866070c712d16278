import Derived.Test.Qxb6605965aW6
import Derived.Test.Qxb6605965aPlain
namespace Go.Proofs.Qxb6605965a
open Go.RowKit Go.Maps

theorem Row.ba {w : World} {g M : Nat} {f : Nat → UInt8} (hr : Row w g M f) {o : Nat} {l : List UInt8} (hh : Has f o l) (ho : o + l.length ≤ M) {ad : Addr} (ha : 0 < l.length → ad = ⟨g, o, none⟩) : BA w (some ad) l := by
  by_cases h0 : l.length = 0
  · exact .inl h0
  · obtain rfl := ha (by omega)
    exact .inr ⟨g, o, rfl, hr.lt, fun j hj => by rw [hr.cell (by omega), hh j hj]⟩
theorem enc_parts {f : Nat → UInt8} {o : Nat} {e : Ent} (h : Has f o (encE e)) :
    Has f o (Lib.uvarint e.1.length) ∧ Has f (o + (Lib.uvarint e.1.length).length) e.1 ∧ Has f (o + (Lib.uvarint e.1.length).length + e.1.length) (Lib.uvarint e.2.length) ∧
      Has f (o + (Lib.uvarint e.1.length).length + e.1.length + (Lib.uvarint e.2.length).length) e.2 := by
  unfold encE at h
  refine ⟨h.left.left.left, h.left.left.right, ?_, ?_⟩
  · have := h.left.right
    rw [List.length_append, ← Nat.add_assoc] at this
    exact this
  · have := h.right
    rw [List.length_append, List.length_append, ← Nat.add_assoc, ← Nat.add_assoc] at this
    exact this

def EntryPost (w : World) (g o1 m o2 p : Nat) (e : Ending) (w' : World) : Prop :=
  ∃ a b, e = .returned (.tuple #[.slice (some a) m m, .slice (some b) p p]) ∧ (0 < m → a = ⟨g, o1, none⟩) ∧ (0 < p → b = ⟨g, o2, none⟩) ∧ Only nothing w w'

set_option maxHeartbeats 2000000 in
set_option maxRecDepth 100000 in
theorem entry26 (g M n i o m p : Nat) (x : Int) (f : Nat → UInt8) (w : World) (hr : Row w g M f) (hi : 24 + 4 * i + 4 ≤ M) (ho4 : Has f (24 + 4 * i) (Lib.leBytes 4 o)) (hh : Has f o (Lib.uvarint m)) (hh2 : Has f (o + (Lib.uvarint m).length + m) (Lib.uvarint p))
    (ho : o + (Lib.uvarint m).length + m + (Lib.uvarint p).length + p ≤ M) (hM : M ≤ 2097151) :
    Calls Try.prog 26 #[nodeV g M x n, .int .i64 i] w (EntryPost w g (o + (Lib.uvarint m).length) m (o + (Lib.uvarint m).length + m + (Lib.uvarint p).length) p) := by
  have hO := (Only.refl nothing w).alloc (nodeO g M x n)
  have hr1 := hr.only hO (fun h => h)
  obtain ⟨cx0, cx1, cx2⟩ := nodeCells (w := w) (g := g) (M := M) (n := n) (x := x) (Only.refl nothing _)
  have hc29 := keyAt29 g M n i o m x f _ hr1 hi ho4 hh (by omega) hM
  have hc30 := fun (w1 : World) (hb : Only nothing (w.alloc (nodeO g M x n)) w1) => length30 g M n (o + (Lib.uvarint m).length + m) p x f w1 (hr1.only hb (fun h => h)) hh2 (by omega) (by omega) hM
  generalize (Lib.uvarint m).length = L at *
  generalize (Lib.uvarint p).length = L2 at *
  clear ho4 hh hh2 hr hr1
  go_enter Try.func26, Try.ntmps26
  go_wp2_with fail
  refine hc29.mono ?_
  rintro e w1 ⟨a, rfl, ha, ho1⟩
  obtain ⟨cy0, cy1, cy2⟩ := nodeCells ho1
  have hc := hc30 w1 ho1
  obtain ⟨t, Ht⟩ : ∃ t, Hid (t = o + L + m) := ⟨_, rfl⟩
  rw [← Ht.out] at hc ⊢
  clear hc29 hc30 cx0 cx1 cx2
  go_wp2_with fail
  refine hc.mono ?_
  rintro e w2 ⟨rfl, ho2⟩
  have ho12 := ho1.andThen ho2 (fun i _ h => h)
  obtain ⟨cz0, cz1, cz2⟩ := nodeCells ho12
  have hOW := hO.andThen ho12 (fun i _ h => h)
  clear hc cy0 cy1 cy2 ho1 ho2 ho12 hO
  obtain ⟨q, Hq⟩ : ∃ q, Hid (q = t + L2) := ⟨_, rfl⟩
  have hqM : q + p ≤ M := by rw [Hq.out, Ht.out]; omega
  rw [← Hq.out]
  have hqi : (q : Int) ≤ (M : Int) := by omega
  have hw1 : IntKind.i64.wrap ((q : Int) + (p : Int)) = (q : Int) + (p : Int) := by rw [IntKind.wrap_i64]; omega
  by_cases hp0 : p = 0
  · subst hp0
    go_wp2_with fail
    all_goals go_quiet (fail)
    all_goals go_wp2_with fail
    all_goals go_ret2
    all_goals exact ⟨a, ⟨g, 0, none⟩, by simp, ha, fun h => absurd h (Nat.lt_irrefl _), hOW.drewN _⟩
  · have hne : ¬ q + p = q := by omega
    have hs1 : (q : Int) ≤ (q : Int) + (p : Int) := by omega
    have hs2 : (q : Int) + (p : Int) ≤ (M : Int) := by omega
    go_wp2_with fail
    all_goals go_quiet (fail)
    all_goals go_wp2_with fail
    all_goals first
      | omega
      | (go_ret2; exact ⟨a, ⟨g, q, none⟩, by simp, ha, fun _ => by rw [Hq.out, Ht.out], hOW.drewN _⟩)

theorem nodeEntry14 (g M n i o1 m o2 p : Nat) (x : Int) (w : World) (hc : Calls Try.prog 26 #[nodeV g M x n, .int .i64 i] w (EntryPost w g o1 m o2 p)) :
    Calls Try.prog 14 #[.slice (some ⟨g, 0, none⟩) M M, .int .u8 x, .int .i64 n, .int .i64 i] w (EntryPost w g o1 m o2 p) := by
  go_enter Try.func14, Try.ntmps14
  go_wp2_with fail
  refine hc.mono ?_
  rintro e w' ⟨a, b, rfl, ha, hb, ho⟩
  clear hc
  go_wp2_with fail
  go_ret2
  exact ⟨a, b, by simp, ha, hb, ho⟩

/-- The node of es lies in the row g. -/
structure NodeAt (w : World) (g M : Nat) (f : Nat → UInt8) (es : List Ent) : Prop where
  row : Row w g M f
  node : NodeTo f es es.length
  fits : offs es es.length ≤ M
  small : M ≤ 2097151
theorem NodeAt.only {w w' : World} {g M : Nat} {f : Nat → UInt8} {es : List Ent} (h : NodeAt w g M f es) (ho : Only nothing w w') : NodeAt w' g M f es := ⟨h.row.only ho (fun h => h), h.node, h.fits, h.small⟩
theorem NodeAt.room {w : World} {g M : Nat} {f : Nat → UInt8} {es : List Ent} (h : NodeAt w g M f es) {i : Nat} (hi : i < es.length) :
    24 + 4 * i + 4 ≤ M ∧ offs es i + (Lib.uvarint (es.getD i d0).1.length).length + (es.getD i d0).1.length + (Lib.uvarint (es.getD i d0).2.length).length + (es.getD i d0).2.length ≤ M := by
  have h1 := offs_mono es (i + 1) es.length hi (Nat.le_refl _)
  have h2 := h.fits
  have h3 := offs_base es es.length
  rw [offs_succ es i hi, enc_len] at h1
  constructor <;> omega

/-- What entry i of the node reads. -/
def ReadPost (w : World) (E : Ent) (e : Ending) (w' : World) : Prop :=
  ∃ a b, e = .returned (.tuple #[.slice (some a) E.1.length E.1.length, .slice (some b) E.2.length E.2.length]) ∧ BA w' (some a) E.1 ∧ BA w' (some b) E.2 ∧ Only nothing w w'
theorem read14 (g M n i : Nat) (x : Int) (f : Nat → UInt8) (es : List Ent) (w : World) (h : NodeAt w g M f es) (hi : i < es.length) :
    Calls Try.prog 14 #[.slice (some ⟨g, 0, none⟩) M M, .int .u8 x, .int .i64 n, .int .i64 i] w (ReadPost w (es.getD i d0)) := by
  obtain ⟨hr1, hr2⟩ := h.room hi
  obtain ⟨h4, hE⟩ := h.node i hi
  obtain ⟨p1, p2, p3, p4⟩ := enc_parts hE
  refine (nodeEntry14 g M n i _ _ _ _ x w (entry26 g M n i (offs es i) _ _ x f w h.row hr1 h4 p1 p3 hr2 h.small)).mono ?_
  rintro e w' ⟨a, b, rfl, ha, hb, ho⟩
  have hr' := h.row.only ho (fun h => h)
  exact ⟨a, b, rfl, hr'.ba p2 (by omega) ha, hr'.ba p4 (by omega) hb, ho⟩

end Go.Proofs.Qxb6605965a
