import Derived.Test.Qxb6605965aBuild
import Derived.Test.Qxb6605965aSearch
import Derived.Test.Qxb6605965aGuards
namespace Go.Proofs.Qxb6605965a
open Go.RowKit Go.Maps

set_option maxHeartbeats 2000000 in
set_option maxRecDepth 100000 in
theorem main7 (a : Option Addr) (n c : Nat) (es : List Ent) (w : World) (hs : EntsAt w a es) (hn : n = es.length) (hnil : a = none → n = 0) :
    Calls Try.prog 7 #[.slice a n c] w (RetO w (.bool true)) := by
  have Hn : Hid (n = es.length) := hn
  have hcG := bytes21 a n c es w hs hn
  clear hn
  go_enter Try.func7, Try.ntmps7
  go_wp2_with fail
  refine hcG.mono ?_
  rintro e w' ⟨b, rfl, hw', hg⟩
  obtain rfl := hw'
  clear hcG
  cases b with
  | false =>
    go_wp2_with fail
    go_ret
    exact ⟨rfl, .refl _ _⟩
  | true =>
    obtain ⟨hn1, hgg⟩ := hg rfl
    have HG : Hid (∀ j, j < n → Small (es.getD j d0)) := hgg
    by_cases hbig : (65536 : Int) < n
    · clear hg hgg
      go_wp2_with fail
      go_ret
      exact ⟨rfl, .refl _ _⟩
    have hcT := ebytes11 a n c es w' hs Hn.out hn1 hgg
    clear hg hgg
    go_wp2_with fail
    refine hcT.mono ?_
    rintro e w1 ⟨T, rfl, ho1, hT1, hT⟩
    clear hcT
    by_cases hTb : (1048576 : Int) < T
    · clear hT
      go_wp2_with fail
      go_ret
      exact ⟨rfl, ho1⟩
    have hcS := nondec17 a n c es w1 (hs.only ho1) Hn.out hn1 HG.out
    have HT : Hid (tot es ≤ 1048576) := by show _ ≤ _; rw [hT (by omega)]; omega
    clear hT
    go_wp2_with fail
    refine hcS.mono ?_
    rintro e wS ⟨b, rfl, hoS, hso⟩
    have hoA := ho1.andThen hoS (fun i _ h => h)
    clear hcS ho1 hoS
    cases b with
    | false =>
      clear hso
      go_wp2_with fail
      go_ret
      exact ⟨rfl, hoA⟩
    | true =>
    have HS : Hid (Sorted es) := hso rfl
    clear hso
    have hcC := clone12 a n c es wS (hs.only hoA) Hn.out hn1 HG.out hnil
    go_wp2_with fail
    refine hcC.mono ?_
    rintro e w2 ⟨a2, c2, rfl, ho2, hs2⟩
    have hcB := build13 a2 n c2 es w2 hs2 Hn.out HG.out HT.out
    have hO2 := hoA.andThen ho2 (fun i _ h => h)
    clear hcC hoA ho2 hs hnil
    go_wp2_with fail
    refine hcB.mono ?_
    rintro e w3 ⟨g, M, f, rfl, hgb, hrow, hnt, hof, hM, ho3⟩
    have hN : NodeAt w3 g M f es := ⟨hrow, hnt, hof, hM⟩
    have hs3 := hs2.only ho3
    have hO3 := hO2.andThen ho3 (fun i _ h => h)
    clear hcB hO2 ho3 hs2 hrow hnt hof hgb
    go_wp2_with fail
    go_loopw [5] (fun i wr => ∃ k : Nat, k ≤ n ∧ i = .int .i64 k ∧ Only nothing w3 wr) (fun i _ => n - (intOf i).toNat)
    case atStart => exact ⟨0, Nat.zero_le _, rfl, .refl _ _⟩
    case round =>
      obtain ⟨k, hk, rfl, ho⟩ := hrel
      by_cases hlt : k < n
      · have hkl : k < es.length := by rw [← Hn.out]; exact hlt
        have hki : (k : Int) < (n : Int) := by omega
        have hsm := (HG.out k hlt).1
        obtain ⟨b, off, ka, kc, -, -, hab, hbb, hc1, -, hbk, -, hnk, -⟩ := hs3.at hkl
        subst hab
        obtain ⟨KK, HKK⟩ : ∃ KK, Hid (KK = keyOf es k) := ⟨_, rfl⟩
        have eK : (es.getD k d0).1 = KK := HKK.out.symm
        rw [eK] at hc1 hbk hnk hsm
        clear eK
        obtain ⟨m, Hm⟩ : ∃ m, Hid (m = KK.length) := ⟨_, rfl⟩
        rw [← Hm.out] at hc1 hsm
        have hcS := search19 g M n 3 f es ka m kc KK wr (hN.only ho) Hn.out hn1 HS.out (hbk.only ho (fun _ _ _ _ h => h)) Hm.out hnk
        have hcell := (ho.cell (p := ⟨b, off + k * 2, none⟩) hbb (fun h => h)).trans hc1
        go_wp2_with fail
        refine hcS.mono ?_
        rintro e w4 ⟨p, rfl, hL, ho4⟩
        have HL : Hid (Low es (keyOf es k) p) := by show Low _ _ _; rw [← HKK.out]; exact hL
        obtain ⟨hpk, hpe⟩ := HL.out.own HS.out hkl
        have HPE : Hid (keyOf es p = KK) := by show _ = _; rw [HKK.out]; exact hpe
        have hpl : p < es.length := by omega
        rw [decide_eq_true (show p < es.length ∧ keyOf es p = KK from ⟨hpl, HPE.out⟩)]
        have hO4 := ho.andThen ho4 (fun i _ h => h)
        have hcR := read14 g M n p 3 f es w4 (hN.only hO4) hpl
        have hcell4 := (hO4.cell (p := ⟨b, off + k * 2, none⟩) hbb (fun h => h)).trans hc1
        have hpk1 : decide ((p : Int) < 0) = false := decide_eq_false (by omega)
        have hpk2 : decide ((k : Int) < (p : Int)) = false := decide_eq_false (by omega)
        clear hcS hL hpe hcell ho4 ho
        go_wp2_with fail
        refine hcR.mono ?_
        rintro e w5 ⟨ad, bd, rfl, hb1, hb2, ho5⟩
        have hO5 := hO4.andThen ho5 (fun i _ h => h)
        have eP : (es.getD p d0).1 = KK := HPE.out
        rw [eP] at hb1 ⊢
        rw [← Hm.out]
        have hcell5 := (hO5.cell (p := ⟨b, off + k * 2, none⟩) hbb (fun h => h)).trans hc1
        have hcE := equal15 (some ad) ka m m m kc KK KK w5 hb1 (hbk.only hO5 (fun _ _ _ _ h => h)) Hm.out Hm.out (by omega)
        rw [decide_eq_true rfl] at hcE
        obtain ⟨m2, Hm2⟩ : ∃ m2, Hid (m2 = (es.getD p d0).2.length) := ⟨_, rfl⟩
        rw [← Hm2.out]
        clear hcR ho5 hO4 hb2 hcell4 eP
        go_wp2_with fail
        refine hcE.mono ?_
        rintro e w6 ⟨rfl, ho6⟩
        have hO6 := hO5.andThen ho6 (fun i _ h => h)
        have hcell6 := (hO6.cell (p := ⟨b, off + k * 2, none⟩) hbb (fun h => h)).trans hc1
        clear hcE ho6 hO5 hcell5 hb1
        by_cases hp0 : 0 < p
        · obtain ⟨r, hr⟩ : ∃ r, p = r + 1 := ⟨p - 1, by omega⟩
          have hrl : r < es.length := by omega
          obtain ⟨b', off', ra, rc, -, -, hab', -, hcr1, -, hbr, -, -, -⟩ := hs3.at hrl
          cases hab'
          have hsr := (HG.out r (by omega)).1
          have HZ : Hid (Lib.compareBytes (keyOf es r) KK < 0) := by show _ < _; rw [HKK.out]; exact HL.out.2.1 r (by omega)
          obtain ⟨RR, HRR⟩ : ∃ RR, Hid (RR = keyOf es r) := ⟨_, rfl⟩
          have eR : (es.getD r d0).1 = RR := HRR.out.symm
          rw [eR] at hcr1 hbr hsr
          have hz : Lib.compareBytes RR KK < 0 := by rw [HRR.out]; exact HZ.out
          clear eR
          obtain ⟨m3, Hm3⟩ : ∃ m3, Hid (m3 = RR.length) := ⟨_, rfl⟩
          rw [← Hm3.out] at hcr1 hsr
          have hcellr := (hO6.cell (p := ⟨b, off + r * 2, none⟩) hbb (fun h => h)).trans hcr1
          have hq : ∀ N, Calls Try.prog 20 #[.slice ra m3 rc, .slice ka m kc] (w6.drewN N) (Drawn (w6.drewN N) (.int .i64 (Lib.compareBytes RR KK))) := fun N => compare20 ra ka m3 rc m kc RR KK (w6.drewN N) (hbr.only (hO6.drewN N) (fun _ _ _ _ h => h)) (hbk.only (hO6.drewN N) (fun _ _ _ _ h => h)) Hm3.out Hm.out (by omega) (by omega)
          have hd : decide ((0 : Int) ≤ Lib.compareBytes RR KK) = false := decide_eq_false (by omega)
          have hpi : (0 : Int) < (p : Int) := by omega
          have hpr : (p : Int) - 1 = (r : Int) := by omega
          have hwr : IntKind.i64.wrap (r : Int) = (r : Int) := by rw [IntKind.wrap_i64]; omega
          have hri : (r : Int) < (n : Int) := by omega
          generalize Lib.compareBytes RR KK = z at hq hd
          clear hs3 HG hz hr
          go_wp2_with fail
          go_quiet ((go_at_call 20; exact Drawn.quiet (hq _)))
          go_wp2_with fail
          go_roundw
          case rel => exact ⟨k + 1, by omega, by go_num, hO6.drewN _⟩
          case measure => simp [intOf]; omega
        · have hd : decide ((0 : Int) < (p : Int)) = false := decide_eq_false (by omega)
          have hd2 : decide (0 < p) = false := decide_eq_false hp0
          clear hs3 HG hp0
          go_wp2_with fail
          go_quiet (fail)
          go_wp2_with fail
          go_roundw
          case rel => exact ⟨k + 1, by omega, by go_num, hO6.drewN _⟩
          case measure => simp [intOf]; omega
      · have hkn : k = n := by omega
        subst hkn
        go_wp2_with fail
        go_ret
        exact ⟨rfl, hO3.andThen ho (fun i _ h => h)⟩

end Go.Proofs.Qxb6605965a
