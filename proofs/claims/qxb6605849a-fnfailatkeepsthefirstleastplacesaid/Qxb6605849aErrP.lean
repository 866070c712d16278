import Derived.Test.Qxb6605849aFail
import Derived.Laws.AppendOwn
import Derived.OwnWalk
import Derived.Maps.AppendAt
namespace Go.Proofs.Qxb6605849a
open Go.RowKit Go.Maps

theorem own_row {w : World} {base : Nat} {e : TypeId} {v : Value} {n : Nat} {f : Nat → Value} (h : w.ownsRow base e 1 v n ((List.range n).map f)) : ∃ a c, v = .slice a n c ∧ RowAt w a n f := by
  rcases h.2 with ⟨rfl, rfl⟩ | ⟨g, cap, cur, rfl, _, hh, _⟩
  · exact ⟨none, 0, rfl, .inl rfl⟩
  · exact ⟨_, cap, rfl, .inr ⟨g, 0, rfl, (Array.getElem?_eq_some_iff.1 hh).1, fun j hj => by
      have h2 := h.cells rfl j (f j) (by simp [hj])
      unfold Addr.add at h2
      split at h2
      · rename_i e0; subst e0; exact h2
      · exact h2⟩⟩
theorem own_lt {w : World} {base : Nat} {e : TypeId} {size : Nat} {v : Value} {n : Nat} {xs : List Value} (h : w.ownsRow base e size v n xs) {g : Nat} (hg : v.ownBlock = some g) : base ≤ g ∧ g < w.heap.size := by
  rcases h.2 with ⟨rfl, _⟩ | ⟨g', cap, cur, rfl, hb, hh, _⟩
  · cases hg
  · simp only [Value.ownBlock, Option.some.injEq] at hg
    subst hg
    exact ⟨hb, (Array.getElem?_eq_some_iff.1 hh).1⟩
theorem own_ne {w : World} {base base' : Nat} {e e' : TypeId} {size size' : Nat} {v v' : Value} {n n' : Nat} {xs xs' : List Value} (h : w.ownsRow base e size v n xs) (h' : w.ownsRow base' e' size' v' n' xs') (hne : e ≠ e') : v.ownBlock = none ∨ v.ownBlock ≠ v'.ownBlock := by
  rcases h.2 with ⟨rfl, _⟩ | ⟨g, cap, cur, rfl, hb, hh, _⟩
  · exact .inl rfl
  · refine .inr fun e1 => ?_
    rcases h'.2 with ⟨rfl, _⟩ | ⟨g', cap', cur', rfl, hb', hh', _⟩
    · cases e1
    · simp only [Value.ownBlock, Option.some.injEq] at e1
      subst e1
      rw [hh] at hh'
      simp only [Option.some.injEq, Obj.cells.injEq] at hh'
      exact hne hh'.2.1
theorem ErrIs.path {w : World} {B : Nat} {pa : Option Addr} {er : Value} {ea : Option Addr} {en : Nat} {st : Option (Int × List Elt)} (h : ErrIs w B pa er ea en st) {qs : List Elt} (hq : qs = (st.map (·.2)).getD []) : en = qs.length ∧ en ≤ 1048576 ∧ PathAt w ea qs := by
  rcases h with ⟨rfl, _, rfl, _⟩ | ⟨id, qs', X, rfl, _, _, _, h5, h6, h7, _⟩
  · subst hq; exact ⟨rfl, Nat.zero_le _, .inl rfl⟩
  · subst hq; exact ⟨h5, by rw [h5]; exact h6, h7⟩
theorem range_snoc (f : Nat → Value) (k : Nat) : (List.range (k + 1)).map f = (List.range k).map f ++ [f k] := by
  rw [List.range_succ, List.map_append]; rfl

set_option maxHeartbeats 2000000 in
set_option maxRecDepth 100000 in
theorem errp21 (B : Nat) (ps qs : List Elt) (st : Option (Int × List Elt)) (w : World) (hw : WalkSt w B ps st) (hq : qs = (st.map (·.2)).getD []) :
    Calls Try.prog 21 #[.pointer (some ⟨B, 0, none⟩)] w (SplitPost w qs qs.length) := by
  obtain ⟨i3, hi3, hz3⟩ := Option.map_eq_some_iff.1 info3
  obtain ⟨i9, hi9, hz9⟩ := Option.map_eq_some_iff.1 info9
  simp only [Prod.mk.injEq] at hz3 hz9
  obtain ⟨y1, y2, y3⟩ := hz3
  obtain ⟨x1, x2, x3⟩ := hz9
  obtain ⟨h0, pa, pc, er, ea, en, ec, hwk, hpl, herr⟩ := hw
  obtain ⟨-, -, g10, -, -, f10⟩ := hwk.cells
  obtain ⟨hn, hnb, hp⟩ := herr.path hq
  have Hn : Hid (en = qs.length) := hn
  unfold PathAt at hp
  rw [← Hn.out] at hp ⊢
  clear hn hq herr hpl hwk
  go_enter Try.func21, Try.ntmps21
  go_wp2_with fail
  go_loopw [2, 3, 11] (fun v1 v2 i wr => ∃ k : Nat, k ≤ en ∧ i = .int .i64 k ∧ Only nothing w wr ∧ wr.ownsRow w.heap.size 3 1 v1 k ((List.range k).map (fI qs)) ∧ wr.ownsRow w.heap.size 9 1 v2 k ((List.range k).map (fS qs)))
    (fun _ _ i _ => en - (intOf i).toNat)
  case atStart => exact ⟨0, Nat.zero_le _, rfl, .refl _ _, World.ownsRow_nil _ _ _ _, World.ownsRow_nil _ _ _ _⟩
  case round =>
    obtain ⟨k, hk, rfl, ho, hr1, hr2⟩ := hrel
    by_cases hlt : k < en
    · obtain ⟨b, off, rfl, hb, hc⟩ := hp.at (k := k) hlt
      have hcell := (ho.cell (p := ⟨b, off + k * 2, none⟩) hb (fun h => h)).trans (hc k hlt).1
      have hcell2 := (ho.cell (p := ⟨b, off + k * 2 + 1, none⟩) hb (fun h => h)).trans (hc k hlt).2
      have HI : Hid (fI qs k = .int .i64 (qs.getD k dE).1) := rfl
      have HS : Hid (fS qs k = .string (qs.getD k dE).2) := rfl
      generalize (qs.getD k dE).1 = x at hcell HI
      generalize (qs.getD k dE).2 = s at hcell2 HS
      have hki : (k : Int) < (en : Int) := by omega
      have hsz := ho.size
      clear hp hc g10 f10
      have HL1 : Hid ((List.range (k + 1)).map (fI qs) = (List.range k).map (fI qs) ++ [.int .i64 x]) := (range_snoc _ _).trans (by rw [HI.out])
      have HL2 : Hid ((List.range (k + 1)).map (fS qs) = (List.range k).map (fS qs) ++ [.string s]) := (range_snoc _ _).trans (by rw [HS.out])
      generalize (List.range k).map (fI qs) = L1 at hr1 HL1
      generalize (List.range k).map (fS qs) = L2 at hr2 HL2
      clear HI HS
      go_upto_region 4 with fail
      go_upto_region 5 with (at_builtin; refine wpList_append_own_at _ rfl (.tmp 15) (.tmp 18) 45 rfl w.heap.size 3 i3 (.int .i64 0) 1 8 Try.underlying45 hi3 y1 y2 y3 rfl (by decide) u2 k L1 rfl ((hr1.alloc _).alloc _) ⟨wr.heap.size + 1, 0, none⟩ 1 1 [.int .i64 x] rfl rfl ?c1 ?c2 ?c3 ?c4 ?c5 ?_)
      case c1 =>
        intro j u hj
        match j, hj with
        | 0, hj => simp at hj; subst hj; simp [Addr.add]
      case c2 => intro u hu; simp at hu; subst hu; rfl
      case c3 => unfold maxLen; omega
      case c4 => omega
      case c5 => simp; omega
      intro v' w1 hv1 hg1 _ _
      have hcs : w1.cell? ⟨wr.heap.size, 1, none⟩ = some (.string s) := hg1.cell (a := ⟨wr.heap.size, 1, none⟩) (by simp) (fun e => by
        exact absurd (own_lt hr1 e.symm).2 (Nat.lt_irrefl _))
      have ho1 := ((ho.alloc (.cells #[.int .i64 x, .string s] 79)).alloc (.cells #[.int .i64 x] 3)).grown hg1 (fun g e hg => by
        have := own_lt hr1 e
        omega)
      have hr2' := ((hr2.alloc (.cells #[.int .i64 x, .string s] 79)).alloc (.cells #[.int .i64 x] 3)).kept hg1 (own_ne hr2 hr1 (by decide))
      have hsz1 := ho1.size
      clear hr1 hr2 hcell hcell2 hg1 ho
      go_upto_region 5 with fail
      go_upto_region 6 with (at_builtin; refine wpList_append_own_at _ rfl (.tmp 20) (.tmp 23) 22 rfl w.heap.size 9 i9 (.string ByteArray.empty) 1 16 Try.underlying22 hi9 x1 x2 x3 rfl (by decide) u3 k L2 rfl (hr2'.alloc _) ⟨w1.heap.size, 0, none⟩ 1 1 [.string s] rfl rfl ?c1 ?c2 ?c3 ?c4 ?c5 ?_)
      case c1 =>
        intro j u hj
        match j, hj with
        | 0, hj => simp at hj; subst hj; simp [Addr.add]
      case c2 => intro u hu; simp at hu; subst hu; rfl
      case c3 => unfold maxLen; omega
      case c4 => omega
      case c5 => simp; omega
      intro v'' w2 hv2 hg2 _ _
      have ho2 := (ho1.alloc (.cells #[.string s] 9)).grown hg2 (fun g e hg => by
        have := own_lt hr2' e
        omega)
      have hv1' := (hv1.alloc (.cells #[.string s] 9)).kept hg2 (own_ne hv1 hr2' (by decide))
      rw [← HL1.out] at hv1'
      rw [← HL2.out] at hv2
      clear hg2 hv1 hr2' ho1 hcs
      go_wp2_with fail
      go_roundw
      case rel => exact ⟨k + 1, by omega, by go_num, ho2, hv1', hv2⟩
      case measure => simp [intOf]; omega
    · have hkn : k = en := by omega
      subst hkn
      go_wp2_with fail
      go_ret2
      obtain ⟨a1, c1, rfl, q1⟩ := own_row hr1
      obtain ⟨a2, c2, rfl, q2⟩ := own_row hr2
      exact ⟨_, _, _, _, rfl, ho, q1, q2⟩

end Go.Proofs.Qxb6605849a
