import Derived.Test.Qxb6605849aDoorTie
import Derived.Test.Qxb6605849aDoorCards
import Derived.Test.Qxb6605849aDoorLaw
import Derived.ProofKit
import Derived.LaidMore
import Derived.Stop.Joined
import Derived.Lib.SmallJoins
import Derived.Deep.Strs
import Derived.WalkSmall
namespace Go.Proofs.Qxb6605849aDoor
open Go.ChangeShapes Go.WideShapes Go.ChangeAt Go.RowKit

theorem own : ownKnob Tryd.prog.godebug = none := by kernel_rfl
theorem laidOut : laidOutB Tryd.prog = true := by kernel_rfl
theorem cells26 : Tryd.prog.cellsOf 26 = 3 := by kernel_rfl
theorem cells9 : Tryd.prog.cellsOf 9 = 1 := by kernel_rfl
theorem cells4 : Tryd.prog.cellsOf 4 = 1 := by kernel_rfl
theorem cells24 : Tryd.prog.cellsOf 24 = 1 := by kernel_rfl
abbrev tn : String := Rows.fnReadValueValidationEnumAndConstRow.named.headD ""
abbrev laid1 : List (String × DataW Unit) := Rows.fnReadValueValidationEnumAndConstRow.laid

theorem float_of_trod {H : Type} {enc : TypeId × Value → H} {P : Program} {w : World} {base : Nat} {sp : Nat → Bool} {held : Bool} {fuel : Nat} {t : TypeId} {k : FloatKind} {c : Value} {y : DataW H × List MemPlace}
    (ht : P.underlying t = some (.float k)) (h : DataW.trod enc P w base sp held fuel t [c] = some y) : ∃ n, c = .float k n := by
  cases fuel with
  | zero => simp [DataW.trod] at h
  | succ fuel =>
    cases c <;> simp [DataW.trod, ht] at h
    rename_i k' n
    obtain ⟨⟨rfl, _⟩, _⟩ := h
    exact ⟨n, rfl⟩

set_option maxRecDepth 100000 in
/-- A []JSONValue argument, opened. -/
theorem open_vals {H : Type} {enc : TypeId × Value → H} {W : World} {a0 : Option Addr} {len cap : Nat} {d0 : DataW H} {p : List MemPlace} (h0 : DataW.Trod enc Tryd.prog W 0 (fun _ => true) true 23 (.slice a0 len cap) d0 p)
    (hlt : ∀ x ∈ p, x.block < W.heap.size) : ∃ (tt : Nat → Bool) (xx : Nat → ByteArray) (ff : Nat → Nat), ValsAt W a0 len tt xx ff ∧ (∀ i, i < len → (xx i).size ≤ 9223372036854775807) ∧ (a0 = none → len = 0) := by
  obtain ⟨fuel, hf⟩ := h0
  rcases Deep.open_slice Tryd.underlying23 hf with ⟨hcs, hx⟩ | ⟨a, len', cap', m, n, D, Pl, hcs, _, hl, hm, hmm, hx, hel⟩
  · simp [Value.cells] at hcs
    obtain ⟨rfl, rfl, rfl⟩ := hcs
    exact ⟨fun _ => false, fun _ => ByteArray.empty, fun _ => 0, .inl rfl, fun i hi => absurd hi (Nat.not_lt_zero _), fun _ => rfl⟩
  · simp [Value.cells] at hcs
    obtain ⟨rfl, rfl, rfl⟩ := hcs
    have hp := congrArg Prod.snd hx
    dsimp only at hp
    clear hx
    simp only [if_true] at hmm
    subst hmm
    have each : ∀ i, i < m → ∃ q : Bool × ByteArray × Nat, W.cell? (a.add (i * 3)) = some (.bool q.1) ∧ W.cell? (a.add (i * 3 + 1)) = some (.string q.2.1) ∧ W.cell? (a.add (i * 3 + 2)) = some (.float .f64 q.2.2) ∧ q.2.1.size ≤ maxLen := fun i hi => by
      obtain ⟨cs', h1, h2⟩ := hel i hi
      rw [cells26] at h1
      obtain ⟨_, hlen, hcell⟩ := World.cells?_some h1
      obtain ⟨y0, y1, y2, n2, _, _, g0, g1, g2⟩ := Deep.trod_struct3 Tryd.underlying26 h2
      match cs', hlen with
      | [v0, v1, v2], _ =>
        simp [cells4, cells9, cells24] at g0 g1 g2
        obtain ⟨b, e0, _⟩ := DataW.trod_bool Tryd.underlying4 g0
        obtain ⟨s, e1, _, hs⟩ := DataW.trod_string Tryd.underlying9 g1
        obtain ⟨x, e2⟩ := float_of_trod Tryd.underlying24 g2
        simp at e0 e1
        subst e0 e1 e2
        have c0 := hcell 0 (by omega)
        have c1 := hcell 1 (by omega)
        have c2 := hcell 2 (by omega)
        rw [Deep.add_add] at c0 c1 c2
        exact ⟨(b, s, x), by simpa using c0, by simpa using c1, by simpa using c2, hs⟩
    obtain ⟨q, hq⟩ := Deep.choose_lt each
    refine ⟨fun i => (q i).1, fun i => (q i).2.1, fun i => (q i).2.2, ?_, fun i hi => (hq i (by omega)).2.2.2, fun h => by cases h⟩
    by_cases hl0 : len = 0
    · exact .inl hl0
    · obtain ⟨b, off, spot⟩ := a
      have hspot : spot = none := by simpa [Addr.add] using World.cell?_spot (hq 0 (by omega)).1
      subst hspot
      have hbW : b < W.heap.size := hlt (.cell b off) (by rw [hp]; exact List.mem_append_left _ (MemPlace.mem_row.2 ⟨0, by rw [cells26]; omega, by simp⟩))
      refine .inr ⟨b, off, rfl, hbW, fun j hj => ?_⟩
      obtain ⟨c0, c1, c2, _⟩ := hq j (by omega)
      rw [add_plain] at c0 c1 c2
      exact ⟨c0, c1, c2⟩

theorem gTn : Tryd.prog.globalNamed tn = some 0 := by kernel_rfl
theorem tTn : (Tryd.prog.globals[0]?).map (·.type) = some 82 := by kernel_rfl

/-- The start that fits: the heap that the door's own run leaves. -/
theorem door_met (os : Os) (args : Array Value) : laidMetH Tryd.prog laid1 ((World.doorLaid Tryd.prog 400 os).forCall (fun _ _ => 0) ⟨#[], args, []⟩).memory :=
  laidMetH_of_parts3 (fuel := 8) (laidMet_of_run' 8 (by kernel_rfl) (by kernel_rfl)) (by kernel_rfl) (by kernel_rfl)

set_option maxRecDepth 100000 in
theorem lifted (os : Os) (started : os.Started) (H : Type) (enc : TypeId × Value → H) :
    ReturnsInHanded {} Tryd.checked os 3 .any (fun w args => (Rows.fnReadValueValidationEnumAndConstSpec.pre enc Tryd.prog Tryd.f3 [] false w args ∧ laidMetH Tryd.prog laid1 w) ∧ sizedMet enc Tryd.prog Tryd.f3 (OpenSpec.ofChange Rows.fnReadValueValidationEnumAndConstSpec) false w args)
      (Rows.fnReadValueValidationEnumAndConstSpec.post enc Tryd.prog Tryd.f3 false true false false) := by
  refine returnsInHanded_of_change_and (C := Tryd.checked) (X := fun w _ => laidMetH Tryd.prog laid1 w) (fun _ _ _ hh h => h.of_heap hh) own started (by kernel_rfl) Tryd.func3
    (ChangeSpec.witness_shaped (enc := enc) (C := Tryd.checked) (os := os) (X := fun w _ => laidMetH Tryd.prog laid1 w) false (World.doorLaid Tryd.prog 400 os) #[.int .i16 0, .bool false, .slice none 0 0, .string ByteArray.empty, .bool false, .agg #[.bool false, .string ByteArray.empty, .float .f64 0]] 8 rfl (World.shaped_of_RefB (by kernel_rfl) (by kernel_rfl)) (by kernel_rfl) (by kernel_rfl) (by kernel_rfl) (door_met os _)) ?_
  intro W base args ds gs before hval0 hW _ _ _ _
  have hval : ∀ (j : Nat) t v, Tryd.f3.params[j]? = some t → args[j]? = some v → Value.okWide Tryd.prog W .any base t v := hval0
  have hW' := hW
  obtain ⟨p, q, hA0, hV0, rfl, hfz, hnd⟩ := hW
  have hA : DataW.TrodAll enc Tryd.prog W 0 (fun _ => true) true Tryd.f3.params.toList args.toList ds p := hA0
  have hV : DataW.TrodVars enc Tryd.prog W (fun _ => true) [tn] gs q := hV0
  rw [Tryd.params3] at hA hval
  obtain ⟨v0, vs0, d0, ds0, p0, q0, hargs, rfl, rfl, h0, r0⟩ := trodAll_cons hA
  obtain ⟨v1, vs1, d1, ds1, p1, q1, rfl, rfl, rfl, h1, r1⟩ := trodAll_cons r0
  obtain ⟨v2, vs2, d2, ds2, p2, q2, rfl, rfl, rfl, h2, r2⟩ := trodAll_cons r1
  obtain ⟨v3, vs3, d3, ds3, p3, q3, rfl, rfl, rfl, h3, r3⟩ := trodAll_cons r2
  obtain ⟨v4, vs4, d4, ds4, p4, q4, rfl, rfl, rfl, h4, r4⟩ := trodAll_cons r3
  obtain ⟨v5, vs5, d5, ds5, p5, q5, rfl, rfl, rfl, h5, r5⟩ := trodAll_cons r4
  obtain ⟨rfl, rfl, rfl⟩ := trodAll_nil r5
  obtain rfl : args = #[v0, v1, v2, v3, v4, v5] := by cases args; simp_all
  obtain ⟨d, rfl, rfl, rfl, wd⟩ := open_int Tryd.underlying22 (hval 0 22 v0 rfl rfl) h0
  obtain ⟨he, rfl, rfl, rfl⟩ := open_bool Tryd.underlying4 (hval 1 4 v1 rfl rfl) h1
  obtain ⟨a2, len, cap, rfl⟩ := okWide_slice Tryd.underlying23 (hval 2 23 v2 rfl rfl)
  obtain ⟨s, rfl, rfl, rfl, hs⟩ := ChangeMaps.open_string Tryd.underlying9 (hval 3 9 v3 rfl rfl) h3
  obtain ⟨hc, rfl, rfl, rfl⟩ := open_bool Tryd.underlying4 (hval 4 4 v4 rfl rfl) h4
  obtain ⟨c0, c1, c2, y0, y1, y2, m, rfl, rfl, rfl, hy0, hy1, hy2⟩ := Joins.open_agg3 Tryd.underlying26 (by kernel_rfl) cells26 (hval 5 26 v5 rfl rfl) h5
  obtain ⟨ct, e0, ey0⟩ := DataW.trod_bool Tryd.underlying4 hy0
  obtain ⟨cx, e1, ey1, hcx⟩ := DataW.trod_string Tryd.underlying9 hy1
  obtain ⟨cf, e2⟩ := float_of_trod Tryd.underlying24 hy2
  simp at e0 e1
  subst e0 e1 e2
  clear hA0 hval0 hV0
  have hlt : ∀ x ∈ p2, x.block < W.heap.size := fun x hx => by simpa using hW'.lt x (by simp [hx])
  obtain ⟨tt, xx, ff, hv, hxx, hnil⟩ := open_vals h2 hlt
  refine (law3 d he hc a2 len cap tt xx ff s ct cx cf W hv hxx hs hcx hnil).mono fun e W' ⟨hE, ho⟩ => ?_
  subst hE
  have hb : Below W.heap.size W W' := ho.below (Nat.le_refl _) (fun _ _ h => h)
  have hlt5 : ∀ x ∈ y0.2 ++ (y1.2 ++ y2.2), x.block < W.heap.size := fun x hx => by simpa using hW'.lt x (by simp only [List.mem_append] at hx ⊢; simp [hx])
  have hargs' := trodAll_cons_mk (shut_int (enc := enc) (w := W') (base := 0) (spare := fun b => decide (b < W.heap.size)) (held := true) Tryd.underlying22 wd) (trodAll_cons_mk (shut_bool Tryd.underlying4 he) (trodAll_cons_mk (Below.trod laidOut (by kernel_rfl) (of_decide_eq_true (by kernel_rfl)) h2 hb hlt)
    (trodAll_cons_mk (ChangeMaps.shut_string Tryd.underlying9 hs) (trodAll_cons_mk (shut_bool Tryd.underlying4 hc) (trodAll_cons_mk (Below.trod laidOut (by kernel_rfl) (of_decide_eq_true (by kernel_rfl)) h5 hb hlt5) trodAll_mk0)))))
  obtain ⟨g, t, cs, fuel, dv, pv, rfl, hg, ht, hvar, hd, rfl⟩ := trodVars_one hV
  obtain rfl := Option.some.inj (gTn.symm.trans hg)
  obtain rfl := Option.some.inj (tTn.symm.trans ht)
  obtain ⟨v, hcs, hvc⟩ : ∃ v : Value, cs.toList = [v] ∧ v.cells = #[v] := by
    rcases Deep.open_slice Tryd.underlying82 hd with ⟨h, _⟩ | ⟨a, l, c, _, _, _, _, h, _⟩
    · exact ⟨_, h, rfl⟩
    · exact ⟨_, h, rfl⟩
  obtain rfl : cs = #[v] := by cases cs; simp_all
  have hltv : ∀ x ∈ MemPlace.row ⟨0, 0, none⟩ (#[v] : Array Value).size ++ pv, x.block < W.heap.size := fun x hx => by simpa using hW'.lt x (List.mem_append_right _ hx)
  have hT : DataW.Trod enc Tryd.prog W 0 (fun _ => true) true 82 v dv pv := ⟨fuel, by rw [hvc]; exact hd⟩
  obtain ⟨fuel', hT'⟩ := Below.trod laidOut (by kernel_rfl) (of_decide_eq_true (by kernel_rfl)) hT hb (fun x hx => hltv x (List.mem_append_right _ hx))
  rw [hvc] at hT'
  have h0lt : 0 < W.heap.size := hltv (.cell 0 0) (List.mem_append_left _ (MemPlace.mem_row.2 ⟨0, by simp, by simp⟩))
  have hvars : DataW.TrodVars enc Tryd.prog W' (fun b => decide (b < W.heap.size)) [tn] [dv] (MemPlace.row ⟨0, 0, none⟩ (#[v] : Array Value).size ++ pv ++ []) :=
    ⟨0, 82, #[v], fuel', pv, [], hg, ht, var?_below hb hg h0lt hvar, hT', rfl, rfl⟩
  exact ⟨_, rfl, _, _, _, [], _, _, hW', trodAll_mk1 (shut_bool Tryd.underlying4 true), hargs', hvars, hb.frame _, fun h => by cases h⟩

theorem row_holds : Rows.FnReadValueValidationEnumAndConstSaid :=
  OpenClaim.holds_of_wide 3 Tryd.f3 rfl rfl rfl rfl rfl rfl rfl ⟨rfl, rfl, rfl, rfl, rfl⟩ rfl rfl rfl rfl rfl (by kernel_rfl) Tryd.func3 (by kernel_rfl)
    (of_decide_eq_true (by kernel_rfl)) (by unfold Func.isWrapper; first | (rw [if_pos (by decide +kernel)]; kernel_rfl) | (rw [if_neg (by decide +kernel)]; exact ⟨rfl, rfl⟩))
    (fun os started H enc _ => lifted os started H enc)

/-- The tied card. -/
theorem card_holds : Rows.FnReadValueValidationEnumAndConstCardSaid :=
  Claim7.holds_tied_plain_at .later [] [.wider] true Rows.fnReadValueValidationEnumAndConstCard.stood.harness true
    row_holds (fun _ h => by cases h) (by kernel_rfl) (fun _ h => by cases h) fnReadValueValidationEnumAndConst_row_tie rfl ⟨rfl, rfl⟩ (by kernel_rfl) rfl
    (fun f fn hf hfn => by
      obtain rfl : f = 3 := Option.some.inj ((show Tryd.prog.funcNamed Rows.fnReadValueValidationEnumAndConstRow.func = some 3 by kernel_rfl).symm.trans hf) |>.symm
      obtain rfl : fn = Tryd.f3 := (Option.some.inj (Tryd.func3.symm.trans hfn)).symm
      exact ⟨by kernel_rfl, fun j t ht => by
        rw [Tryd.params3] at ht
        have hm : t ∈ [22, 4, 23, 9, 4, 26] := by simpa using Array.mem_of_getElem? ht
        have hall : ([22, 4, 23, 9, 4, 26].all fun u => !Tryd.prog.wantsStandIn u) = true := by kernel_rfl
        exact (show Tryd.prog.wantsStandIn t = false by simpa using List.all_eq_true.1 hall t hm)⟩)
    (by kernel_rfl)

end Go.Proofs.Qxb6605849aDoor
