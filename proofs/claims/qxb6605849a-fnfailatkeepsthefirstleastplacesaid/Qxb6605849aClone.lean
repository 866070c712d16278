import Derived.Test.Qxb6605849aCmp3
namespace Go.Proofs.Qxb6605849a
open Go.RowKit Go.Maps

theorem info79 : (Try.prog.info? 79).map (fun i => (i.zero, i.size, i.bytes)) = some (some (.agg #[.int .i64 0, .string ByteArray.empty]), 2, 24) := by kernel_rfl
theorem info41 : (Try.prog.info? 41).map (fun i => (i.zero, i.size, i.bytes)) = some (some (.agg #[.int .i64 0, .string ByteArray.empty]), 2, 24) := by kernel_rfl

/-- The path's cells in a row. -/
def flat (f g : Nat → Value) (n : Nat) : List Value := (List.range (n * 2)).map fun i => if i % 2 = 0 then f (i / 2) else g (i / 2)
theorem flat_len (f g : Nat → Value) (n : Nat) : (flat f g n).length = n * 2 := by simp [flat]
theorem flat_even (f g : Nat → Value) (n : Nat) {k : Nat} (h : k < n) : (flat f g n)[k * 2]? = some (f k) := by
  unfold flat
  rw [List.getElem?_map, List.getElem?_range (by omega)]
  have e : k * 2 / 2 = k := by omega
  simp [e]
theorem flat_odd (f g : Nat → Value) (n : Nat) {k : Nat} (h : k < n) : (flat f g n)[k * 2 + 1]? = some (g k) := by
  unfold flat
  rw [List.getElem?_map, List.getElem?_range (by omega)]
  have e : (k * 2 + 1) / 2 = k := by omega
  have e2 : (k * 2 + 1) % 2 = 1 := by omega
  simp [e, e2]
theorem flat_get {f g : Nat → Value} {n j : Nat} {u : Value} (h : (flat f g n)[j]? = some u) : j < n * 2 ∧ u = if j % 2 = 0 then f (j / 2) else g (j / 2) := by
  have hj : j < n * 2 := by
    have := (List.getElem?_eq_some_iff.1 h).1
    rwa [flat_len] at this
  unfold flat at h
  rw [List.getElem?_map, List.getElem?_range hj] at h
  simp at h
  exact ⟨hj, h.symm⟩
theorem flat_cells {w : World} {b off n : Nat} {f g : Nat → Value} (hc : ∀ j, j < n → w.cell? ⟨b, off + j * 2, none⟩ = some (f j) ∧ w.cell? ⟨b, off + j * 2 + 1, none⟩ = some (g j)) :
    ∀ j u, (flat f g n)[j]? = some u → w.cell? ((⟨b, off, none⟩ : Addr).add j) = some u := by
  intro j u h
  obtain ⟨hj, rfl⟩ := flat_get h
  rw [Addr.add_lit]
  obtain ⟨c0, c1⟩ := hc (j / 2) (by omega)
  by_cases h2 : j % 2 = 0
  · rw [if_pos h2, ← c0]
    have e : off + j = off + j / 2 * 2 := by omega
    rw [e]
  · rw [if_neg h2, ← c1]
    have e : off + j = off + j / 2 * 2 + 1 := by omega
    rw [e]

/-- A copy in a block of its own. -/
def FreshPost (w : World) (n : Nat) (ps : List Elt) (e : Ending) (w' : World) : Prop :=
  ∃ a' c', e = .returned (.slice a' n c') ∧ Only nothing w w' ∧ PathAt w' a' ps ∧ (∀ b o t, a' = some ⟨b, o, t⟩ → w.heap.size ≤ b ∧ b < w'.heap.size) ∧ (a' = none → n = 0)

set_option maxHeartbeats 1000000 in
set_option maxRecDepth 100000 in
theorem clone31 (a : Option Addr) (n c : Nat) (ps : List Elt) (w : World) (hp : PathAt w a ps) (hn : n = ps.length) (hnb : n ≤ 1048576) (hnil : a = none → n = 0) :
    Calls Try.prog 31 #[.slice a n c] w (FreshPost w n ps) := by
  have Hn : Hid (n = ps.length) := hn
  unfold PathAt at hp
  rw [← Hn.out] at hp
  clear hn
  have hq := fun (w : World) (a : Option Addr) (n c : Nat) => Lib.run_eql_slice_nil (P := Try.prog) w 65 79 a n c 0 0 Try.underlying65
  cases a with
  | none =>
    obtain rfl := hnil rfl
    go_enter Try.func31, Try.ntmps31
    go_wp2
    go_ret
    exact ⟨none, 0, rfl, .refl _ _, by unfold PathAt; rw [← Hn.out]; exact .inl rfl, fun b o t h => (by cases h), fun _ => rfl⟩
  | some ad =>
    obtain ⟨i0, hi, hz0, hz1, hz2⟩ := info_parts info79
    have hrow : (w.alloc (.cells #[] 79)).ownsRow w.heap.size 79 2 (.slice (some ⟨w.heap.size, 0, none⟩) 0 0) 0 [] :=
      ⟨rfl, .inr ⟨w.heap.size, 0, #[], rfl, Nat.le_refl _, by show (w.heap.push _)[w.heap.size]? = _; simp, Nat.le_refl _, Nat.zero_le _, rfl, rfl⟩⟩
    have ho := (Only.refl nothing w).alloc (.cells #[] 79)
    have hcells : ∀ j u, (flat (fun j => .int .i64 (ps.getD j dE).1) (fun j => .string (ps.getD j dE).2) n)[j]? = some u → (w.alloc (.cells #[] 79)).cell? (ad.add j) = some u := by
      rcases hp with h0 | ⟨b, off, hab, hb, hc⟩
      · intro j u h
        have := (flat_get h).1
        omega
      · obtain rfl : ad = ⟨b, off, none⟩ := Option.some.inj hab
        exact flat_cells (fun j hj => ⟨(ho.cell (p := ⟨b, off + j * 2, none⟩) hb id).trans (hc j hj).1, (ho.cell (p := ⟨b, off + j * 2 + 1, none⟩) hb id).trans (hc j hj).2⟩)
    have hone : ∀ u ∈ flat (fun j => .int .i64 (ps.getD j dE).1) (fun j => .string (ps.getD j dE).2) n, u.oneCell' = true := by
      intro u hu
      unfold flat at hu
      obtain ⟨i, _, rfl⟩ := List.mem_map.1 hu
      by_cases h : i % 2 = 0
      · rw [if_pos h]; rfl
      · rw [if_neg h]; rfl
    have hlen := flat_len (fun j => .int .i64 (ps.getD j dE).1) (fun j => .string (ps.getD j dE).2) n
    have hevenodd : ∀ k, k < n → (flat (fun j => .int .i64 (ps.getD j dE).1) (fun j => .string (ps.getD j dE).2) n)[k * 2]? = some (.int .i64 (ps.getD k dE).1) ∧ (flat (fun j => .int .i64 (ps.getD j dE).1) (fun j => .string (ps.getD j dE).2) n)[k * 2 + 1]? = some (.string (ps.getD k dE).2) := fun k hk => ⟨flat_even _ _ n hk, flat_odd _ _ n hk⟩
    generalize flat (fun j => .int .i64 (ps.getD j dE).1) (fun j => .string (ps.getD j dE).2) n = news at hcells hone hlen hevenodd
    have HE : Hid (∀ k, k < n → news[k * 2]? = some (.int .i64 (ps.getD k dE).1) ∧ news[k * 2 + 1]? = some (.string (ps.getD k dE).2)) := hevenodd
    have HC : Hid (∀ j u, news[j]? = some u → (w.alloc (.cells #[] 79)).cell? (ad.add j) = some u) := hcells
    have HO : Hid (∀ u ∈ news, u.oneCell' = true) := hone
    have HL : Hid (news.length = n * 2) := hlen
    clear hevenodd hcells hone hlen hp hnil
    go_enter Try.func31, Try.ntmps31
    go_wp2_with (at_builtin; refine wpList_append_own _ rfl _ _ 65 rfl w.heap.size 79 i0 (.agg #[.int .i64 0, .string ByteArray.empty]) 2 24 Try.underlying65 hi hz0 hz1 hz2 rfl (by decide) _ _ _ rfl hrow ad n c news rfl HL.out HC.out HO.out (by unfold maxLen; omega) (by omega) (by simp) ?_; intro v' w1 hown' hgrow hnil')
    obtain ⟨g, cap, hv, hgb⟩ : ∃ g cap, v' = .slice (some ⟨g, 0, none⟩) n cap ∧ w.heap.size ≤ g := by
      rcases hown'.2 with ⟨h, h0⟩ | ⟨g, cap, cur, h, hg, _⟩
      · exact absurd (hnil'.1 h).1 (by intro e; cases e)
      · exact ⟨g, cap, by rw [h]; simp, hg⟩
    have hcl := hown'.cells (g := g) (by rw [hv]; rfl)
    have hlt := (hown'.lt g (by rw [hv]; rfl)).2
    rw [hv]
    go_ret
    refine ⟨_, _, rfl, ho.grown hgrow (fun k hk hlt => by cases hk; exact absurd hlt (Nat.lt_irrefl _)), ?_, fun b o t h => (by cases h; exact ⟨hgb, hlt⟩), fun h => by cases h⟩
    unfold PathAt
    rw [← Hn.out]
    refine .inr ⟨g, 0, rfl, hlt, fun j hj => ?_⟩
    have h1 := hcl (j * 2) _ (by rw [List.nil_append]; exact (HE.out j hj).1)
    have h2 := hcl (j * 2 + 1) _ (by rw [List.nil_append]; exact (HE.out j hj).2)
    rw [Addr.add_lit] at h1 h2
    exact ⟨h1, h2⟩

end Go.Proofs.Qxb6605849a
