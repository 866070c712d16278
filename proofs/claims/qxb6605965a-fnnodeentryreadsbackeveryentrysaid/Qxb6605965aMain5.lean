import Derived.Test.Qxb6605965aW7
import Derived.Test.Qxb6605965aBuild
namespace Go.Proofs.Qxb6605965a
open Go.RowKit Go.Maps

set_option maxHeartbeats 2000000 in
set_option maxRecDepth 100000 in
theorem main5 (a : Option Addr) (n c : Nat) (es : List Ent) (w : World) (hs : EntsAt w a es) (hn : n = es.length) (hnil : a = none → n = 0) :
    Calls Try.prog 5 #[.slice a n c] w (RetO w (.bool true)) := by
  have Hn : Hid (n = es.length) := hn
  have hcG := bytes10 a n c es w hs hn
  clear hn
  go_enter Try.func5, Try.ntmps5
  go_wp2_with fail
  refine hcG.mono ?_
  rintro e w' ⟨b, rfl, hw', hg⟩
  obtain rfl := hw'
  clear hcG
  cases b with
  | false =>
    go_wp2_with fail
    go_ret
    exact ⟨rfl, .refl _ _⟩
  | true =>
    obtain ⟨hn1, hgg⟩ := hg rfl
    have HG : Hid (∀ j, j < n → Small (es.getD j d0)) := hgg
    by_cases hbig : (65536 : Int) < n
    · clear hg hgg
      go_wp2_with fail
      go_ret
      exact ⟨rfl, .refl _ _⟩
    have hcT := ebytes11 a n c es w' hs Hn.out hn1 hgg
    clear hg hgg
    go_wp2_with fail
    refine hcT.mono ?_
    rintro e w1 ⟨T, rfl, ho1, hT1, hT⟩
    clear hcT
    by_cases hTb : (1048576 : Int) < T
    · clear hT
      go_wp2_with fail
      go_ret
      exact ⟨rfl, ho1⟩
    have hcC := clone12 a n c es w1 (hs.only ho1) Hn.out hn1 HG.out hnil
    have HT : Hid (tot es ≤ 1048576) := by show _ ≤ _; rw [hT (by omega)]; omega
    clear hT
    go_wp2_with fail
    refine hcC.mono ?_
    rintro e w2 ⟨a2, c2, rfl, ho2, hs2⟩
    have hcB := build13 a2 n c2 es w2 hs2 Hn.out HG.out HT.out
    have hO2 := ho1.andThen ho2 (fun i _ h => h)
    clear hcC ho1 ho2 hs hnil
    go_wp2_with fail
    refine hcB.mono ?_
    rintro e w3 ⟨g, M, f, rfl, hgb, hrow, hnt, hof, hM, ho3⟩
    have hN : NodeAt w3 g M f es := ⟨hrow, hnt, hof, hM⟩
    have hs3 := hs2.only ho3
    have hO3 := hO2.andThen ho3 (fun i _ h => h)
    clear hcB hO2 ho3 hs2 hrow hnt hof hgb
    go_wp2_with fail
    go_loopw [5] (fun i wr => ∃ k : Nat, k ≤ n ∧ i = .int .i64 k ∧ Only nothing w3 wr) (fun i _ => n - (intOf i).toNat)
    case atStart => exact ⟨0, Nat.zero_le _, rfl, .refl _ _⟩
    case round =>
      obtain ⟨k, hk, rfl, ho⟩ := hrel
      by_cases hlt : k < n
      · have hkl : k < es.length := by rw [← Hn.out]; exact hlt
        have hki : (k : Int) < (n : Int) := by omega
        have hcR := read14 g M n k 3 f es wr (hN.only ho) hkl
        have hsm := HG.out k hlt
        obtain ⟨b, off, ka, kc, va, vc, hab, hbb, hc1, hc2, hbk, hbv, -, -⟩ := hs3.at hkl
        subst hab
        generalize es.getD k d0 = E at hcR hsm hc1 hc2 hbk hbv
        obtain ⟨KK, VV⟩ := E
        obtain ⟨hsm1, hsm2⟩ := hsm
        dsimp only at hsm1 hsm2 hc1 hc2 hbk hbv
        obtain ⟨m, Hm⟩ : ∃ m, Hid (m = KK.length) := ⟨_, rfl⟩
        obtain ⟨p, Hp⟩ : ∃ p, Hid (p = VV.length) := ⟨_, rfl⟩
        rw [← Hm.out] at hc1 hsm1
        rw [← Hp.out] at hc2 hsm2
        clear hs3 HG
        go_wp2_with fail
        refine hcR.mono ?_
        rintro e w4 ⟨ad, bd, rfl, hb1, hb2, ho4⟩
        dsimp only at hb1 hb2 ⊢
        rw [← Hm.out, ← Hp.out]
        have hO4 := ho.andThen ho4 (fun i _ h => h)
        have hcell := (hO4.cell (p := ⟨b, off + k * 2, none⟩) hbb (fun h => h)).trans hc1
        have hcE := equal15 (some ad) ka m m m kc KK KK w4 hb1 (hbk.only hO4 (fun _ _ _ _ h => h)) Hm.out Hm.out (by omega)
        rw [decide_eq_true rfl] at hcE
        clear hcR ho4 ho
        go_wp2_with fail
        refine hcE.mono ?_
        rintro e w5 ⟨rfl, ho5⟩
        have hO5 := hO4.andThen ho5 (fun i _ h => h)
        have hcell2 := (hO5.cell (p := ⟨b, off + k * 2 + 1, none⟩) hbb (fun h => h)).trans hc2
        have hcE2 := equal15 (some bd) va p p p vc VV VV w5 (hb2.only ho5 (fun _ _ _ _ h => h)) (hbv.only hO5 (fun _ _ _ _ h => h)) Hp.out Hp.out (by omega)
        rw [decide_eq_true rfl] at hcE2
        clear hcE ho5 hO4 hcell
        go_wp2_with fail
        refine hcE2.mono ?_
        rintro e w6 ⟨rfl, ho6⟩
        have hO6 := hO5.andThen ho6 (fun i _ h => h)
        clear hcE2 ho6 hO5 hcell2
        go_wp2_with fail
        go_roundw
        case rel => exact ⟨k + 1, by omega, by go_num, hO6⟩
        case measure => simp [intOf]; omega
      · have hkn : k = n := by omega
        subst hkn
        go_wp2_with fail
        go_ret
        exact ⟨rfl, hO3.andThen ho (fun i _ h => h)⟩

end Go.Proofs.Qxb6605965a
