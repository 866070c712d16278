import Derived.Test.Qxb6605849aErr
import Derived.Test.Qxb6605849aErrP
import Derived.Test.Qxb6605849aSteps
import Derived.Test.Qxb6605849aNotesWalk
import Derived.Test.Qxb6605849aCmp3
import Derived.Deep.Cut
import Derived.Deep.CutRange
import Derived.Deep.RegionWith
namespace Go.Proofs.Qxb6605849a
open Go.RowKit Go.Maps

/-- What the walk has noted behind its first k steps. -/
def stOf (ss : List (List Elt)) : Nat → Option (Int × List Elt)
  | 0 => none
  | k + 1 => upd (stOf ss k) (k : Int) (ss.getD k [])
theorem upd_some (l : Int) (P Q : List Elt) (i : Int) : upd (some (l, P)) i Q = if cP Q P < 0 then some (i, Q) else some (l, P) := rfl
theorem stOf_some (ss : List (List Elt)) : ∀ k, 0 < k → ∃ l : Nat, l < k ∧ stOf ss k = some ((l : Int), ss.getD l [])
  | 0, h => absurd h (Nat.lt_irrefl _)
  | 1, _ => ⟨0, Nat.zero_lt_one, rfl⟩
  | k + 2, _ => by
    obtain ⟨l, hl, h⟩ := stOf_some ss (k + 1) (Nat.succ_pos _)
    unfold stOf
    rw [h, upd_some]
    by_cases hc : cP (ss.getD (k + 1) []) (ss.getD l []) < 0
    · rw [if_pos hc]; exact ⟨k + 1, by omega, rfl⟩
    · rw [if_neg hc]; exact ⟨l, by omega, rfl⟩

set_option maxHeartbeats 1600000 in
set_option maxRecDepth 100000 in
theorem keeps5 (a : Option Addr) (n c : Nat) (ss : List (List Elt)) (w : World) (hs : StepsAt w a ss) (hn : n = ss.length) (hz : ∀ j, j < n → ∀ e ∈ ss.getD j [], e.2.size ≤ 9223372036854775807) (hnil : a = none → n = 0) :
    Calls Try.prog 5 #[.slice a n c] w (TruePost w) := by
  have Hn : Hid (n = ss.length) := hn
  have hb14 := bytes14 a n c ss w hs hn hz
  clear hn hz
  go_enter Try.func5, Try.ntmps5
  go_wp2_with fail
  refine hb14.mono ?_
  rintro e w' ⟨b, rfl, hww, hb⟩
  obtain rfl := hww.symm
  clear hb14
  cases b with
  | false =>
    go_wp2_with fail
    go_ret
    exact ⟨rfl, .refl _ _⟩
  | true =>
  obtain ⟨hn1, hg⟩ := hb rfl
  clear hb
  by_cases hbig : (4096 : Int) < n
  · go_wp2_with fail
    go_ret
    exact ⟨rfl, .refl _ _⟩
  have hbigd : decide ((4096 : Int) < n) = false := decide_eq_false hbig
  go_wp2_with fail
  clear hbigd
  go_loop [3, 4] (fun t i => ∃ k T : Nat, k ≤ n ∧ i = .int .i64 k ∧ T ≤ 1048576 ∧ t = .int .i64 T) (fun _ i => n - (intOf i).toNat)
  case atStart => exact ⟨0, 24 * n, Nat.zero_le _, rfl, by omega, by simp⟩
  case round =>
    obtain ⟨k, T, hk, rfl, hT, rfl⟩ := hrel
    by_cases hlt : k < n
    · obtain ⟨b, off, aj, cj, rfl, hb, hcell, hp, -⟩ := hs.at (k := k) (by rw [← Hn.out]; exact hlt)
      have hgk := hg k hlt
      clear hs hg
      generalize ss.getD k [] = P at hcell hp hgk
      obtain ⟨hg1, hg2⟩ := hgk
      obtain ⟨m, Hm⟩ : ∃ m, Hid (m = P.length) := ⟨_, rfl⟩
      unfold PathAt at hp
      rw [← Hm.out] at hcell hp hg1
      by_cases hb1 : (65536 : Int) < m
      · go_wp2_with fail
        go_ret; exact ⟨rfl, .refl _ _⟩
      have hb1d : decide ((65536 : Int) < m) = false := decide_eq_false hb1
      by_cases hb2 : (1048576 : Int) < (T : Int) + 24 * (m : Int)
      · go_wp2_with fail
        go_ret; exact ⟨rfl, .refl _ _⟩
      have hb2d : decide ((1048576 : Int) < (T : Int) + 24 * (m : Int)) = false := decide_eq_false hb2
      go_wp2_with fail
      go_loop [3, 5] (fun t i => ∃ j : Nat, j ≤ m ∧ i = .int .i64 j ∧ t = .int .i64 (T + 24 * m + lens ((keys P).take j) : Nat)) (fun _ i => m - (intOf i).toNat)
      case atStart => exact ⟨0, Nat.zero_le _, rfl, by simp [lens]⟩
      case round =>
        obtain ⟨j, hj, rfl, rfl⟩ := hrel
        have hle2 := lens_take_le (keys P) j
        by_cases hlt2 : j < m
        · obtain ⟨b2, o2, rfl, hb2, hc2⟩ := hp.at (k := j) hlt2
          have hcell2 := (hc2 j hlt2).2
          have hsn : Hid (lens ((keys P).take (j + 1)) = lens ((keys P).take j) + (P.getD j dE).2.size) := keys_succ P j (by rw [← Hm.out]; exact hlt2)
          have hle3 := lens_take_le (keys P) (j + 1)
          rw [hsn.out] at hle3
          generalize (P.getD j dE).2 = s at hcell2 hsn hle3
          generalize hL2 : lens ((keys P).take j) = L2 at hle2 hsn hle3 ⊢
          clear hc2 hp hL2
          go_wp2_with fail
          go_round
          case rel => exact ⟨j + 1, by omega, by go_num, by rw [hsn.out]; go_num⟩
          case measure => simp [intOf]; omega
        · have hjn : j = m := by omega
          subst hjn
          generalize lens ((keys P).take j) = L at hle2 ⊢
          clear hp
          by_cases hb3 : (1048576 : Int) < (T : Int) + 24 * (j : Int) + (L : Int)
          · go_wp2_with fail
            go_ret; exact ⟨rfl, .refl _ _⟩
          go_wp2_with fail
          go_round
          case rel => exact ⟨k + 1, T + 24 * j + L, by omega, by go_num, by omega, rfl⟩
          case measure => simp [intOf]; omega
    · have hkn : k = n := by omega
      subst hkn
      have hc15 := clone15 a k c ss w hs Hn.out hn1 hg hnil
      clear hs hnil hT
      go_wp2_with fail
      refine hc15.mono ?_
      rintro e w1 ⟨a', c', rfl, ho1, hs1⟩
      clear hc15
      have hc16 := new16 w1
      go_wp2_with fail
      refine hc16.mono ?_
      rintro e w2 ⟨rfl, hW2, ho2⟩
      clear hc16
      go_wp2_with fail
      go_loopw [7] (fun i wr => ∃ (q : Nat) (ps : List Elt), q ≤ k ∧ i = .int .i64 q ∧ WalkSt wr w1.heap.size ps (stOf ss q) ∧ Only nothing w1 wr) (fun i _ => k - (intOf i).toNat)
      case atStart => exact ⟨0, [], Nat.zero_le _, rfl, hW2, ho2⟩
      case round =>
        obtain ⟨q, ps, hq, rfl, hW, hO⟩ := hrel
        by_cases hlt2 : q < k
        · obtain ⟨b, off, aj, cj, rfl, hb, hcell0, hp0, -⟩ := hs1.at (k := q) (by rw [← Hn.out]; exact hlt2)
          have hcell := (hO.cell (p := ⟨b, off + q, none⟩) hb (fun h => h)).trans hcell0
          have hpk := PathAt.only hp0 hO (fun _ _ _ _ h => h)
          have hgk := (hg q hlt2).1
          have HST : Hid (stOf ss (q + 1) = upd (stOf ss q) (q : Int) (ss.getD q [])) := rfl
          generalize ss.getD q [] = P at hcell hpk hgk HST
          generalize stOf ss q = st at hW HST
          obtain ⟨m, Hm⟩ : ∃ m, Hid (m = P.length) := ⟨_, rfl⟩
          rw [← Hm.out] at hcell hgk
          have hc17 := split17 aj m cj P wr hpk Hm.out hgk
          clear hcell0 hp0 hs1 hg hW2 ho2 hpk
          go_wp2_with fail
          refine hc17.mono ?_
          rintro e w3 ⟨x1, d1, x2, d2, rfl, ho3, hr1, hr2⟩
          have hc18 := set18 w1.heap.size x1 x2 m d1 d2 P ps st w3 (hW.only ho3 (fun _ _ h => h)) hr1 hr2 Hm.out hgk
          clear hc17 hr1 hr2 hW
          go_wp2_with fail
          refine hc18.mono ?_
          rintro e w4 ⟨rfl, hW4, ho4⟩
          have hc19 := fail19 w1.heap.size (q : Int) P st w4 hW4
          clear hc18 hW4
          go_wp2_with fail
          refine hc19.mono ?_
          rintro e w5 ⟨rfl, hW5, ho5⟩
          have hO5 : Only nothing w1 w5 := (hO.andThen ho3 (fun i _ h => h)).andThen (ho4.andThen ho5 (fun i _ h => h)) (fun i hi h => by omega)
          clear hc19 hO ho3 ho4 ho5 hcell
          go_wp2_with fail
          go_roundw
          case rel => exact ⟨q + 1, P, by omega, by go_num, by rw [HST.out]; exact hW5, hO5⟩
          case measure => simp [intOf]; omega
        · have hqk : q = k := by omega
          subst hqk
          clear hW2 ho2
          obtain ⟨w6, hw6⟩ : ∃ w6, w6 = wr := ⟨_, rfl⟩
          rw [← hw6] at hW hO ⊢
          clear hw6 wr
          by_cases hq0 : q = 0
          · subst hq0
            have hc20 := err20 w1.heap.size ps none w6 hW
            go_wp2_with fail
            refine hc20.mono ?_
            rintro e w7 ⟨rfl, ho7⟩
            have hc21 := errp21 w1.heap.size ps [] none w7 (hW.only ho7 (fun _ _ h => h)) rfl
            clear hc20
            go_wp2_with fail
            refine hc21.mono ?_
            rintro e w8 ⟨x1, d1, x2, d2, rfl, ho8, -, -⟩
            go_wp2_with fail
            go_ret
            exact ⟨rfl, ((ho1.andThen hO (fun i _ h => h)).andThen ho7 (fun i _ h => h)).andThen ho8 (fun i _ h => h)⟩
          · obtain ⟨l0, hl0, hst⟩ := stOf_some ss q (by omega)
            rw [hst] at hW
            have HST : Hid (stOf ss q = some ((l0 : Int), ss.getD l0 [])) := hst
            clear hst
            have hc20 := err20 w1.heap.size ps _ w6 hW
            go_wp2_with fail
            refine hc20.mono ?_
            rintro e w7 ⟨rfl, ho7⟩
            have hc21 := errp21 w1.heap.size ps (ss.getD l0 []) _ w7 (hW.only ho7 (fun _ _ h => h)) rfl
            clear hc20 hW
            obtain ⟨m0, Hm0⟩ : ∃ m0, Hid (m0 = (ss.getD l0 []).length) := ⟨_, rfl⟩
            rw [← Hm0.out] at hc21
            go_wp2_with fail
            refine hc21.mono ?_
            rintro e w8 ⟨x1, d1, x2, d2, rfl, ho8, hr1, hr2⟩
            clear hc21
            have hO8 := (hO.andThen ho7 (fun i _ h => h)).andThen ho8 (fun i _ h => h)
            clear hO ho7 ho8
            have hqe : ((q : Int) == 0) = false := by rw [beq_eq_false_iff_ne]; omega
            go_wp2_with fail
            have hs8 := hs1.only hO8
            have hoW : Only nothing w w8 := ho1.andThen hO8 (fun i _ h => h)
            have hgl : (ss.getD l0 []).length ≤ 1048576 := (hg l0 hl0).1
            rcases hs8 with h0 | ⟨b, off, rfl, hb, hc⟩
            · exact absurd (Hn.out.trans h0) hq0
            rw [← Hn.out] at hc
            clear hs1 hO8 ho1 hqe hq0
            go_loopw [14, 15] (fun lv i wr => ∃ l i' : Nat, l < i' ∧ i' ≤ q ∧ lv = .int .i64 l ∧ i = .int .i64 i' ∧ Hid (stOf ss i' = some ((l : Int), ss.getD l [])) ∧ Only nothing w8 wr) (fun _ i _ => q - (intOf i).toNat)
            case atStart => exact ⟨0, 1, by omega, by omega, rfl, rfl, rfl, .refl _ _⟩
            case round =>
              obtain ⟨l, i', hli, hiq, rfl, rfl, HS, ho⟩ := hrel
              by_cases hlt2 : i' < q
              · obtain ⟨ai, ci, hci0, hpi0, -⟩ := hc i' hlt2
                obtain ⟨al, cl, hcl0, hpl0, -⟩ := hc l (by omega)
                have hci := (ho.cell (p := ⟨b, off + i', none⟩) hb (fun h => h)).trans hci0
                have hcl := (ho.cell (p := ⟨b, off + l, none⟩) hb (fun h => h)).trans hcl0
                have hpi := PathAt.only hpi0 ho.drew (fun _ _ _ _ h => h)
                have hpl := PathAt.only hpl0 ho.drew (fun _ _ _ _ h => h)
                have HS2 : Hid (stOf ss (i' + 1) = if cP (ss.getD i' []) (ss.getD l []) < 0 then some ((i' : Int), ss.getD i' []) else some ((l : Int), ss.getD l [])) := by
                  show stOf ss (i' + 1) = _
                  unfold stOf
                  rw [HS.out, upd_some]
                have hc22 := path22 ai al (ss.getD i' []).length ci (ss.getD l []).length cl (ss.getD i' []) (ss.getD l []) wr.drew hpi hpl rfl rfl (hg i' hlt2).1
                generalize cP (ss.getD i' []) (ss.getD l []) = z at hc22 HS2
                generalize (ss.getD i' []).length = m1 at hci hc22
                generalize (ss.getD l []).length = m2 at hcl hc22
                have hi1 : (i' : Int) < (q : Int) := by omega
                have hi2 : (l : Int) < (q : Int) := by omega
                clear hci0 hpi0 hcl0 hpl0 hpi hpl hc hr1 hr2 HST hgl hg HS Hm0
                go_upto_region 36 with fail
                go_cut [128] from 119 to 119 (fun s wx => s = .bool (decide (z < 0)) ∧ Only nothing w8 wx)
                case first =>
                  go_region_with (go_at_call 22; refine hc22.mono ?_; rintro e w' ⟨rfl, ho'⟩)
                  all_goals go_wp2_with fail
                  all_goals go_meet
                  all_goals (case rel => exact ⟨rfl, ho.drew.andThen ho' (fun i _ h => h)⟩)
                case rest =>
                obtain ⟨rfl, hoc⟩ := hcut
                clear hc22 hci hcl ho
                by_cases hneg : z < 0
                · rw [decide_eq_true hneg]
                  have HS3 := HS2.out.trans (if_pos hneg)
                  clear HS2 hneg
                  have HS2 : Hid (stOf ss (i' + 1) = some ((i' : Int), ss.getD i' [])) := HS3
                  clear HS3
                  go_wp2_with fail
                  go_roundw
                  case rel => exact ⟨i', i' + 1, by omega, by omega, rfl, by go_num, HS2, hoc⟩
                  case measure => simp [intOf]; omega
                · rw [decide_eq_false hneg]
                  have HS3 := HS2.out.trans (if_neg hneg)
                  clear HS2 hneg
                  have HS2 : Hid (stOf ss (i' + 1) = some ((l : Int), ss.getD l [])) := HS3
                  clear HS3
                  go_wp2_with fail
                  go_roundw
                  case rel => exact ⟨l, i' + 1, by omega, by omega, rfl, by go_num, HS2, hoc⟩
                  case measure => simp [intOf]; omega
              · have hiq' : i' = q := by omega
                subst hiq'
                obtain rfl : l0 = l := by
                  have h := HST.out.symm.trans HS.out
                  simp only [Option.some.injEq, Prod.mk.injEq] at h
                  omega
                obtain ⟨al, cl, hcl0, hpl0, -⟩ := hc l0 hl0
                have hcl := (ho.cell (p := ⟨b, off + l0, none⟩) hb (fun h => h)).trans hcl0
                have hpl := PathAt.only hpl0 ho (fun _ _ _ _ h => h)
                rw [← Hm0.out] at hcl
                have hc23 := is23 x1 x2 al m0 d1 d2 cl (ss.getD l0 []) wr (hr1.only ho (fun _ _ _ _ h => h)) (hr2.only ho (fun _ _ _ _ h => h)) hpl Hm0.out (by rw [Hm0.out]; exact hgl)
                clear Hm0
                have hi2 : (l0 : Int) < (i' : Int) := by omega
                clear hcl0 hpl0 hpl hc hr1 hr2 HST hgl hg HS
                go_wp2_with (go_at_call 23; refine hc23.mono ?_; rintro e wG ⟨rfl, hoG⟩)
                go_ret
                exact ⟨rfl, (hoW.andThen ho (fun i _ h => h)).andThen hoG (fun i _ h => h)⟩

end Go.Proofs.Qxb6605849a
