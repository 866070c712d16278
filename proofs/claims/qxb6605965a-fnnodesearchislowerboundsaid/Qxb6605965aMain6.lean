import Derived.Test.Qxb6605965aBuild
import Derived.Test.Qxb6605965aSearch
import Derived.Test.Qxb6605965aGuards
namespace Go.Proofs.Qxb6605965a
open Go.RowKit Go.Maps

set_option maxHeartbeats 4000000 in
set_option maxRecDepth 100000 in
theorem main6 (a ka : Option Addr) (n c kn kc : Nat) (es : List Ent) (K : List UInt8) (w : World) (hs : EntsAt w a es) (hn : n = es.length) (hnil : a = none → n = 0) (hK : BA w ka K) (hkn : kn = K.length) (hknil : ka = none → kn = 0) :
    Calls Try.prog 6 #[.slice a n c, .slice ka kn kc] w (RetO w (.bool true)) := by
  have Hn : Hid (n = es.length) := hn
  have HK : Hid (kn = K.length) := hkn
  have hcG := bytes16 a ka n c kn kc es w hs hn
  clear hn hkn
  go_enter Try.func6, Try.ntmps6
  go_wp2_with fail
  refine hcG.mono ?_
  rintro e w' ⟨b, rfl, hw', hg⟩
  obtain rfl := hw'
  clear hcG
  cases b with
  | false =>
    go_wp2_with fail
    go_ret
    exact ⟨rfl, .refl _ _⟩
  | true =>
  obtain ⟨hn1, hgg, hk1⟩ := hg rfl
  have HG : Hid (∀ j, j < n → Small (es.getD j d0)) := hgg
  by_cases hbig : (65536 : Int) < n
  · clear hg hgg
    go_wp2_with fail
    go_ret
    exact ⟨rfl, .refl _ _⟩
  have hcT := ebytes11 a n c es w' hs Hn.out hn1 hgg
  clear hg hgg
  have hb1 : decide ((65536 : Int) < n) = false := decide_eq_false hbig
  have hb2 : decide ((1048576 : Int) < kn) = false := decide_eq_false (by omega)
  go_wp2_with fail
  refine hcT.mono ?_
  rintro e w1 ⟨T, rfl, ho1, hT1, hT⟩
  clear hcT hb1 hb2
  by_cases hTb : (1048576 : Int) < (T : Int) + (kn : Int)
  · clear hT
    go_wp2_with fail
    go_ret
    exact ⟨rfl, ho1⟩
  have hcS := nondec17 a n c es w1 (hs.only ho1) Hn.out hn1 HG.out
  have HT : Hid (tot es ≤ 1048576) := by show _ ≤ _; rw [hT (by omega)]; omega
  clear hT
  go_wp2_with fail
  refine hcS.mono ?_
  rintro e wS ⟨b, rfl, hoS, hso⟩
  have hoA := ho1.andThen hoS (fun i _ h => h)
  clear hcS ho1 hoS
  cases b with
  | false =>
    clear hso
    go_wp2_with fail
    go_ret
    exact ⟨rfl, hoA⟩
  | true =>
  have HS : Hid (Sorted es) := hso rfl
  clear hso
  have hcC := clone12 a n c es wS (hs.only hoA) Hn.out hn1 HG.out hnil
  go_wp2_with fail
  refine hcC.mono ?_
  rintro e w2 ⟨a2, c2, rfl, ho2, hs2⟩
  have hO2 := hoA.andThen ho2 (fun i _ h => h)
  have hcK := clone18 ka kn kc K w2 (hK.only hO2 (fun _ _ _ _ h => h)) HK.out hk1 hknil
  clear hcC hoA ho2 hs hnil
  go_wp2_with fail
  refine hcK.mono ?_
  rintro e w2b ⟨ka2, kc2, rfl, ho2b, hK2, -, hknil2⟩
  rw [← HK.out]
  have hO2b := hO2.andThen ho2b (fun i _ h => h)
  have hs2b := hs2.only ho2b
  have hcB := build13 a2 n c2 es w2b hs2b Hn.out HG.out HT.out
  clear hcK hK hO2 ho2b hs2 hknil
  go_wp2_with fail
  refine hcB.mono ?_
  rintro e w3 ⟨g, M, f, rfl, hgb, hrow, hnt, hof, hM, ho3⟩
  have hN : NodeAt w3 g M f es := ⟨hrow, hnt, hof, hM⟩
  have hs3 := hs2b.only ho3
  have hK3 := hK2.only ho3 (fun _ _ _ _ h => h)
  have hO3 := hO2b.andThen ho3 (fun i _ h => h)
  have hcF := search19 g M n 3 f es ka2 kn kc2 K w3 hN Hn.out hn1 HS.out hK3 HK.out hknil2
  clear hcB hO2b ho3 hs2b hrow hnt hof hgb hN hK2
  go_wp2_with fail
  refine hcF.mono ?_
  rintro e w4 ⟨p, rfl, hL, ho4⟩
  have HL : Hid (Low es K p) := hL
  have hs4 := hs3.only ho4
  have hK4 := hK3.only ho4 (fun _ _ _ _ h => h)
  have hO4 := hO3.andThen ho4 (fun i _ h => h)
  obtain ⟨bb, Hbb⟩ : ∃ bb, Hid (bb = decide (p < es.length ∧ keyOf es p = K)) := ⟨_, rfl⟩
  rw [← Hbb.out]
  clear hcF hL hs3 hK3 hO3 ho4
  go_wp2_with fail
  go_loopw [9] (fun i wr => ∃ k : Nat, k ≤ n ∧ i = .int .i64 k ∧ Hid (Lows es K k) ∧ Only nothing w4 wr) (fun i _ => n - (intOf i).toNat)
  case atStart => exact ⟨0, Nat.zero_le _, rfl, fun i hi => absurd hi (Nat.not_lt_zero _), .refl _ _⟩
  case round =>
    obtain ⟨k, hk, rfl, HA, ho⟩ := hrel
    by_cases hlt : k < n
    · have hkl : k < es.length := by rw [← Hn.out]; exact hlt
      have hki : (k : Int) < (n : Int) := by omega
      have hsm := (HG.out k hlt).1
      obtain ⟨b, off, ra, rc, -, -, hab, hbb, hc1, -, hbk, -, -, -⟩ := hs4.at hkl
      subst hab
      obtain ⟨KK, HKK⟩ : ∃ KK, Hid (KK = keyOf es k) := ⟨_, rfl⟩
      have eK : (es.getD k d0).1 = KK := HKK.out.symm
      rw [eK] at hc1 hbk hsm
      clear eK
      obtain ⟨m, Hm⟩ : ∃ m, Hid (m = KK.length) := ⟨_, rfl⟩
      rw [← Hm.out] at hc1 hsm
      have hcell := (ho.cell (p := ⟨b, off + k * 2, none⟩) hbb (fun h => h)).trans hc1
      have hcC := compare20 ra ka2 m rc kn kc2 KK K wr (hbk.only ho (fun _ _ _ _ h => h)) (hK4.only ho (fun _ _ _ _ h => h)) Hm.out HK.out (by omega) (by omega)
      by_cases hz : Lib.compareBytes KK K < 0
      · have HA2 : Hid (Lows es K (k + 1)) := fun i hi => by
          by_cases e : i = k
          · subst e; rw [← HKK.out]; exact hz
          · exact HA.out i (by omega)
        generalize Lib.compareBytes KK K = z at hcC hz
        clear hs4 HG
        go_wp2_with fail
        refine hcC.mono ?_
        rintro e w5 h5
        obtain ⟨rfl, ho5⟩ := Drawn.only h5
        have hO5 := ho.andThen ho5 (fun i _ h => h)
        clear hcC h5 ho5
        go_wp2_with fail
        go_roundw
        case rel => exact ⟨k + 1, by omega, by go_num, HA2, hO5⟩
        case measure => simp [intOf]; omega
      · have hLk : Low es K k := ⟨by omega, HA.out, HS.out.up (by rw [← show KK = keyOf es k from HKK.out]; exact hz)⟩
        obtain rfl := HL.out.unique hLk
        have HB : Hid (bb = decide (KK = K)) := by
          show _ = _
          rw [Hbb.out, HKK.out]
          by_cases h : keyOf es p = K
          · rw [decide_eq_true h, decide_eq_true ⟨hkl, h⟩]
          · rw [decide_eq_false h, decide_eq_false (fun x => h x.2)]
        have hd : decide (Lib.compareBytes KK K < 0) = false := decide_eq_false hz
        generalize Lib.compareBytes KK K = z at hcC hz hd
        clear hs4 HG hz hLk
        go_wp2_with fail
        refine hcC.mono ?_
        rintro e w5 h5
        obtain ⟨rfl, ho5⟩ := Drawn.only h5
        have hO5 := ho.andThen ho5 (fun i _ h => h)
        have hcell5 := (hO5.cell (p := ⟨b, off + p * 2, none⟩) hbb (fun h => h)).trans hc1
        have hcE := equal15 ra ka2 m rc kn kc2 KK K w5 (hbk.only hO5 (fun _ _ _ _ h => h)) (hK4.only hO5 (fun _ _ _ _ h => h)) Hm.out HK.out (by omega)
        rw [← HB.out] at hcE
        clear hcC h5 ho5 hcell ho
        go_wp2_with fail
        refine hcE.mono ?_
        rintro e w6 ⟨rfl, ho6⟩
        have hO6 := (hO4.andThen hO5 (fun i _ h => h)).andThen ho6 (fun i _ h => h)
        clear hcE hO5 ho6 hcell5
        cases bb
        all_goals
          go_wp2_with fail
          go_ret
          exact ⟨rfl, hO6⟩
    · have hkn : k = n := by omega
      have hLk : Low es K k := ⟨by rw [← Hn.out]; omega, HA.out, fun i h1 h2 => absurd h1 (by rw [← Hn.out] at h2; omega)⟩
      obtain rfl := HL.out.unique hLk
      have hbf : bb = false := by rw [Hbb.out]; exact decide_eq_false (fun h => hlt (by rw [Hn.out]; exact h.1))
      subst hbf
      have hd : decide ((p : Int) < (n : Int)) = false := decide_eq_false (by omega)
      have hO6 := hO4.andThen ho (fun i _ h => h)
      clear hs4 HG hLk hkn
      go_wp2_with fail
      go_ret
      exact ⟨rfl, hO6⟩

end Go.Proofs.Qxb6605965a
