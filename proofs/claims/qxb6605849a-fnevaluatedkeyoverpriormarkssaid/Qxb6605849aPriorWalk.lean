import Derived.Test.Qxb6605849aNotesWalk
import Derived.Test.Qxb6605849aPlain2
import Derived.Test.Qxb6605849aPairs2
import Derived.Deep.Cut
namespace Go.Proofs.Qxb6605849a
open Go.RowKit Go.Maps Go.WideMaps

set_option maxHeartbeats 2000000 in
set_option maxRecDepth 100000 in
theorem prior4 (a a2 : Option Addr) (n c n2 c2 : Nat) (kk ss : List ByteArray) (vv : Nat → Bool) (w : World) (hp : PairsAt w a n (fun j => .string (kk.getD j ByteArray.empty)) (fun j => .bool (vv j))) (hs : StrsAt w a2 ss) (hn : n = kk.length) (hn2 : n2 = ss.length)
    (hkz : ∀ s ∈ kk, s.size ≤ 9223372036854775807) (hsz : ∀ s ∈ ss, s.size ≤ 9223372036854775807) (hnil : a = none → n = 0) (hnil2 : a2 = none → n2 = 0) :
    Calls Try.prog 4 #[.slice a n c, .slice a2 n2 c2] w (TruePost w) := by
  have Hn : Hid (n = kk.length) := hn
  have Hn2 : Hid (n2 = ss.length) := hn2
  clear hn hn2
  have hq := fun (w : World) (r : Option Nat) => run_eql_map_nil (P := Try.prog) w 28 9 4 r Try.underlying28
  have hmm := @run_makeMap Try.prog
  go_enter Try.func4, Try.ntmps4
  go_wp2_with fail
  refine (bytes12 a a2 n c n2 c2 kk ss _ w hp hs Hn.out Hn2.out hkz hsz).mono ?_
  rintro e w' ⟨b, rfl, rfl, hb⟩
  cases b with
  | false =>
    go_wp2_with fail
    go_ret
    exact ⟨rfl, .refl _ _⟩
  | true =>
  obtain ⟨hn1, hl1, hn3, hl3⟩ := hb rfl
  clear hb
  by_cases hbig : (65536 : Int) < n
  · go_wp2_with fail
    go_ret
    exact ⟨rfl, .refl _ _⟩
  have hbigd : decide ((65536 : Int) < n) = false := decide_eq_false hbig
  by_cases hbig2 : (65536 : Int) < n2
  · go_wp2_with fail
    go_ret
    exact ⟨rfl, .refl _ _⟩
  have hbigd2 : decide ((65536 : Int) < n2) = false := decide_eq_false hbig2
  go_wp2_with fail
  clear hbigd hbigd2
  go_loop [5, 6] (fun t i => ∃ k : Nat, k ≤ n ∧ i = .int .i64 k ∧ t = .int .i64 (24 * n + 16 * n2 + lens (kk.take k) : Nat)) (fun _ i => n - (intOf i).toNat)
  case atStart => exact ⟨0, Nat.zero_le _, rfl, by simp [lens]⟩
  case round =>
    obtain ⟨k, hk, rfl, rfl⟩ := hrel
    have hle2 := lens_take_le kk k
    by_cases hlt : k < n
    · obtain ⟨b, off, rfl, hb, hc⟩ := hp.at (k := k) hlt
      have hcell := (hc k hlt).1
      have hsn : Hid (lens (kk.take (k + 1)) = lens (kk.take k) + (kk.getD k ByteArray.empty).size) := lens_take_succ kk k (by rw [← Hn.out]; exact hlt)
      generalize kk.getD k ByteArray.empty = s at hcell hsn
      have hle3 := lens_take_le kk (k + 1)
      rw [hsn.out] at hle3
      generalize hL : lens (kk.take k) = L at hsn hle2 hle3 ⊢
      clear hc hp hs hkz hsz hL
      go_wp2_with fail
      go_round
      case rel => exact ⟨k + 1, by omega, by go_num, by rw [hsn.out]; go_num⟩
      case measure => simp [intOf]; omega
    · have hkn : k = n := by omega
      subst hkn
      have hall : Hid (kk.take k = kk) := by unfold Hid; rw [Hn.out]; exact List.take_length
      rw [hall.out]
      clear hall hle2
      generalize hL : lens kk = L at hl1 ⊢
      go_wp2_with fail
      go_loop [5, 7] (fun t i => ∃ j : Nat, j ≤ n2 ∧ i = .int .i64 j ∧ t = .int .i64 (24 * k + 16 * n2 + L + lens (ss.take j) : Nat)) (fun _ i => n2 - (intOf i).toNat)
      case atStart => exact ⟨0, Nat.zero_le _, rfl, by simp [lens]⟩
      case round =>
        obtain ⟨j, hj, rfl, rfl⟩ := hrel
        have hle2 := lens_take_le ss j
        by_cases hlt2 : j < n2
        · obtain ⟨b, off, rfl, hb, hc⟩ := hs.at (k := j) (by rw [← Hn2.out]; exact hlt2)
          have hcell := hc j (by rw [← Hn2.out]; exact hlt2)
          have hsn : Hid (lens (ss.take (j + 1)) = lens (ss.take j) + (ss.getD j ByteArray.empty).size) := lens_take_succ ss j (by rw [← Hn2.out]; exact hlt2)
          generalize ss.getD j ByteArray.empty = s at hcell hsn
          have hle3 := lens_take_le ss (j + 1)
          rw [hsn.out] at hle3
          generalize hL2 : lens (ss.take j) = L2 at hsn hle2 hle3 ⊢
          clear hc hp hs hkz hsz hL2
          go_wp2_with fail
          go_round
          case rel => exact ⟨j + 1, by omega, by go_num, by rw [hsn.out]; go_num⟩
          case measure => simp [intOf]; omega
        · have hjn : j = n2 := by omega
          subst hjn
          have hall : Hid (ss.take j = ss) := by unfold Hid; rw [Hn2.out]; exact List.take_length
          rw [hall.out]
          clear hall hle2
          generalize hL2 : lens ss = L2 at hl3 ⊢
          by_cases htot : (1048576 : Int) < 24 * (k : Int) + 16 * (j : Int) + (L : Int) + (L2 : Int)
          · go_wp2_with fail
            go_ret; exact ⟨rfl, .refl _ _⟩
          go_wp2_with fail
          refine (clone13 a k c (fun j => kk.getD j ByteArray.empty) vv w' hp hn1 hnil).mono ?_
          rintro e w1 ⟨a', c', rfl, ho1, hp1⟩
          go_wp2_with fail
          refine (clone8 a2 j c2 ss w1 (hs.only ho1 (fun _ _ _ _ h => h)) Hn2.out hn3 hnil2).mono ?_
          rintro e w2 ⟨a2', c2', rfl, ho2, hs2, -⟩
          have hp2 := hp1.only ho2 (fun _ _ _ _ h => h)
          have ho := ho1.andThen ho2 (fun i _ h => h)
          clear hs hp hp1 ho1 ho2 hnil hnil2 htot hL hL2
          obtain ⟨K, hpK, hKz⟩ : ∃ K : Nat → ByteArray, PairsAt w2 a' k (fun j => .string (K j)) (fun j => .bool (vv j)) ∧ ∀ i, i < k → (K i).size ≤ maxLen :=
            ⟨fun j => kk.getD j ByteArray.empty, hp2, fun i hi => hkz _ (mem_getD (by rw [← Hn.out]; exact hi))⟩
          clear hp2 hkz Hn
          go_upto_if 79 with fail
          go_cut [8] from 25 (fun s8 wx => ∃ m : Option Nat, s8 = .map m ∧ MapIs wx m k (Dp K vv k) ∧ Only nothing w2 wx ∧ (∀ b, m = some b → w2.heap.size ≤ b) ∧ (m = none ↔ k = 0))
          case first =>
            by_cases hk0 : k = 0
            · subst hk0
              go_wp2_with fail
              go_meet
              case rel => exact ⟨none, rfl, .inl ⟨rfl, rfl⟩, .refl _ _, fun b h => (by cases h), by simp⟩
            · have hkp : (0 : Int) < k := by omega
              go_wp2_with fail
              go_loopw [9] (fun i wr => ∃ i' : Nat, i' ≤ k ∧ i = .int .i64 i' ∧ Owns wr w2.heap.size i' (Dp K vv i') ∧ Only nothing w2 wr) (fun i _ => k - (intOf i).toNat)
              case atStart => exact ⟨0, Nat.zero_le _, rfl, World.ownsMap_made _ _ _ _, (Only.refl _ _).alloc _⟩
              case round =>
                obtain ⟨i', hi', rfl, hown, hod⟩ := hrel
                by_cases hlt3 : i' < k
                · obtain ⟨b0, off, rfl, hb0, hc⟩ := hpK.at (k := i') hlt3
                  have hcell := (hod.cell (p := ⟨b0, off + i' * 2, none⟩) hb0 (fun h => h)).trans (hc i' hlt3).1
                  have hcell2 := (hod.cell (p := ⟨b0, off + i' * 2 + 1, none⟩) hb0 (fun h => h)).trans (hc i' hlt3).2
                  have hput : Hid (Dp K vv (i' + 1) = (Dp K vv i').put (kLit (K i')) (bLit (vv i'))) := Dp_succ K vv i'
                  have hsk := hKz i' hlt3
                  generalize K i' = s at hcell hput hsk
                  generalize vv i' = v at hcell2 hput
                  obtain ⟨w3, hrun, hown3, hg3⟩ := World.ownsMap.update (w := wr.drew) hown law9 Try.underlying28 (by unfold maxLen; omega) (keyOf_string_mk Try.underlying9 hsk) (plainElem_bool Try.underlying4 v)
                  have hil : (i' : Int) < (k : Int) := by omega
                  clear hc hpK hs2
                  go_wp2_with fail
                  go_region
                  all_goals go_wp2_with fail
                  go_roundw
                  case rel => exact ⟨i' + 1, by omega, by go_num, by rw [hput.out]; exact hown3, hod.drew.grown hg3 (fun q hq hlt => by cases hq; exact absurd hlt (Nat.lt_irrefl _))⟩
                  case measure => simp [intOf]; omega
                · have hik : i' = k := by omega
                  subst hik
                  go_wp2_with fail
                  go_meet
                  case rel => exact ⟨some w2.heap.size, rfl, .inr ⟨_, rfl, hown⟩, hod, fun b h => by cases h; exact Nat.le_refl _, by simp; omega⟩
          case rest =>
            obtain ⟨m, rfl, hm, hom, hmb, hm0⟩ := hcut
            have hmlt : ∀ b, m = some b → b < wc.heap.size := fun b hb => by
              rcases hm with ⟨h, -⟩ | ⟨b', h, hown⟩
              · rw [h] at hb; cases hb
              · rw [h] at hb; cases hb; exact hown.lt
            go_wp2_with fail
            go_loopw [11] (fun i wr => ∃ i' : Nat, i' ≤ k ∧ i = .int .i64 i' ∧ Owns wr wc.heap.size i' (Dp K vv i') ∧ Only nothing wc wr) (fun i _ => k - (intOf i).toNat)
            case atStart => exact ⟨0, Nat.zero_le _, rfl, World.ownsMap_made _ _ _ _, (Only.refl _ _).alloc _⟩
            case round =>
              obtain ⟨i', hi', rfl, hown, hod⟩ := hrel
              by_cases hlt3 : i' < k
              · obtain ⟨b0, off, rfl, hb0, hc⟩ := (hpK.only hom (fun _ _ _ _ h => h)).at (k := i') hlt3
                have hcell := (hod.cell (p := ⟨b0, off + i' * 2, none⟩) hb0 (fun h => h)).trans (hc i' hlt3).1
                have hcell2 := (hod.cell (p := ⟨b0, off + i' * 2 + 1, none⟩) hb0 (fun h => h)).trans (hc i' hlt3).2
                have hput : Hid (Dp K vv (i' + 1) = (Dp K vv i').put (kLit (K i')) (bLit (vv i'))) := Dp_succ K vv i'
                have hsk := hKz i' hlt3
                generalize K i' = s at hcell hput hsk
                generalize vv i' = v at hcell2 hput
                obtain ⟨w3, hrun, hown3, hg3⟩ := World.ownsMap.update (w := wr.drew) hown law9 Try.underlying28 (by unfold maxLen; omega) (keyOf_string_mk Try.underlying9 hsk) (plainElem_bool Try.underlying4 v)
                have hil : (i' : Int) < (k : Int) := by omega
                clear hc hpK hs2 hmlt hm0 hmb
                go_wp2_with fail
                go_region
                all_goals go_wp2_with fail
                go_roundw
                case rel => exact ⟨i' + 1, by omega, by go_num, by rw [hput.out]; exact hown3, hod.drew.grown hg3 (fun q hq hlt => by cases hq; exact absurd hlt (Nat.lt_irrefl _))⟩
                case measure => simp [intOf]; omega
              · have hik : i' = k := by omega
                subst hik
                obtain ⟨w4, hw4⟩ : ∃ w4, w4 = wr := ⟨_, rfl⟩
                rw [← hw4] at hown hod ⊢
                clear hw4 wr
                have hbe := hown.lt
                go_wp2_with fail
                go_loopw [12] (fun i wr => ∃ q : Nat, q ≤ j ∧ i = .int .i64 q ∧ Owns wr wc.heap.size (i' + q) (Dk (Dp K vv i') ss q) ∧ Only nothing wc wr) (fun i _ => j - (intOf i).toNat)
                case atStart => exact ⟨0, Nat.zero_le _, rfl, by rw [Dk_zero]; exact hown, hod⟩
                case round =>
                  obtain ⟨q, hq, rfl, hown5, hod5⟩ := hrel
                  by_cases hlt4 : q < j
                  · obtain ⟨b0, off, rfl, hb0, hc⟩ := (hs2.only hom (fun _ _ _ _ h => h)).at (k := q) (by rw [← Hn2.out]; exact hlt4)
                    have hcell := (hod5.cell (p := ⟨b0, off + q, none⟩) hb0 (fun h => h)).trans (hc q (by rw [← Hn2.out]; exact hlt4))
                    have hput : Hid (Dk (Dp K vv i') ss (q + 1) = (Dk (Dp K vv i') ss q).put (kLit (ss.getD q ByteArray.empty)) T) := Dk_succ _ ss q (by rw [← Hn2.out]; exact hlt4)
                    have hsk := hsz _ (mem_getD (ss := ss) (k := q) (by rw [← Hn2.out]; exact hlt4))
                    generalize ss.getD q ByteArray.empty = s at hcell hput hsk
                    have hkey : Hid (keyOf Try.prog 9 (.string s) = some (kLit s)) := keyOf_string_mk Try.underlying9 hsk
                    clear hc hpK hs2 hmlt hm0 hmb
                    go_wp2_with (at_mapUpdate; refine wpList_mapUpdate_own _ rfl _ _ _ 28 rfl 9 4 law9 Try.underlying28 (plainElem (H := Unit) Try.prog 4) wc.heap.size (i' + q) _ rfl hown5 (by unfold maxLen; omega) _ _ _ rfl rfl hkey.out _ [] (plainElem_bool Try.underlying4 true) ?_; intro w6 hown6 hg6)
                    go_roundw
                    case rel => exact ⟨q + 1, by omega, by go_num, by rw [hput.out]; exact hown6, hod5.grown hg6 (fun q hq hlt => by cases hq; exact absurd hlt (Nat.lt_irrefl _))⟩
                    case measure => simp [intOf]; omega
                  · have hqj : q = j := by omega
                    subst hqj
                    have hb9 := hown5.lt
                    have hm5 : MapIs wr m i' (Dp K vv i') := hm.only hod5 (fun _ _ h => h)
                    have hs5 : StrsAt wr a2' ss := (hs2.only hom (fun _ _ _ _ h => h)).only hod5 (fun _ _ _ _ h => h)
                    have hp5 := (hpK.only hom (fun _ _ _ _ h => h)).only hod5 (fun _ _ _ _ h => h)
                    have ho5 := (ho.andThen hom (fun i _ h => h)).andThen hod5 (fun i _ h => h)
                    have hmb5 : ∀ b, m = some b → b ≠ wc.heap.size := fun b hb => Nat.ne_of_lt (hmlt b hb)
                    have hmw : ∀ b, m = some b → w2.heap.size ≤ b := hmb
                    have hwc2 : w2.heap.size ≤ wc.heap.size := hom.size
                    have hs2' := hs2
                    have hpK' := hpK
                    have ho25 := hom.andThen hod5 (fun i _ h => h)
                    clear hm hod5 hown hod hbe hmb hmlt hpK hs2 hom hp5 hs5
                    obtain ⟨w7, hw7⟩ : ∃ w7, w7 = wr := ⟨_, rfl⟩
                    rw [← hw7] at hown5 hm5 hb9 ho5 ho25 ⊢
                    clear hw7 wr
                    go_wp2_with fail
                    refine (new9 m false 0 w7).mono ?_
                    rintro e w8 ⟨rfl, rfl⟩
                    have hev0 := evIs_new m false 0 w7
                    go_wp2_with fail
                    go_loopw [14] (fun i wr => ∃ (j' : Nat) (m' : Option Nat), j' ≤ q ∧ i = .int .i64 j' ∧ EvIs wr w7.heap.size m' false 0 ∧ MapIs wr m' (i' + j') (Dk (Dp K vv i') ss j') ∧ Owns wr wc.heap.size (i' + q) (Dk (Dp K vv i') ss q) ∧ Only nothing w2 wr ∧ w7.heap.size ≤ wr.heap.size ∧ (∀ b, m' = some b → w2.heap.size ≤ b ∧ b ≠ wc.heap.size) ∧ (m' = none ↔ (i' = 0 ∧ j' = 0)))
                      (fun i _ => q - (intOf i).toNat)
                    case atStart => exact ⟨0, m, Nat.zero_le _, rfl, hev0, by rw [Dk_zero]; exact hm5.only ((Only.refl nothing _).alloc _) (fun _ _ h => h), owns_only hown5 ((Only.refl nothing _).alloc _) id, ho25.alloc _, by simp, fun b hb => ⟨hmw b hb, hmb5 b hb⟩, by simp [hm0]⟩
                    case round =>
                      obtain ⟨j', m', hj', rfl, hev, hm', hex, ho2r, hwz, hmm', hm0'⟩ := hrel
                      by_cases hlt5 : j' < q
                      · obtain ⟨b0, off, rfl, hb0, hc⟩ := hs2'.at (k := j') (by rw [← Hn2.out]; exact hlt5)
                        have hcell := (ho2r.cell (p := ⟨b0, off + j', none⟩) hb0 (fun h => h)).trans (hc j' (by rw [← Hn2.out]; exact hlt5))
                        have hput : Hid (Dk (Dp K vv i') ss (j' + 1) = (Dk (Dp K vv i') ss j').put (kLit (ss.getD j' ByteArray.empty)) T) := Dk_succ _ ss j' (by rw [← Hn2.out]; exact hlt5)
                        have hsk := hsz _ (mem_getD (ss := ss) (k := j') (by rw [← Hn2.out]; exact hlt5))
                        generalize ss.getD j' ByteArray.empty = s at hcell hput hsk
                        have hevlt := hev.lt
                        clear hc hpK' hs2'
                        go_wp2_with fail
                        refine (key10 w7.heap.size m' false 0 (i' + j') (Dk (Dp K vv i') ss j') s wr hev hm' (by unfold maxLen; omega) (by unfold maxLen; omega)).mono ?_
                        rintro e w10 ⟨rfl, b3, hev3, hown3, ho3, hb3⟩
                        go_wp2_with fail
                        go_roundw
                        case rel =>
                          refine ⟨j' + 1, some b3, by omega, by go_num, hev3, .inr ⟨b3, rfl, by rw [hput.out]; exact hown3⟩, owns_only hex ho3 ?_, ho2r.andThen ho3 ?_, Nat.le_trans hwz ho3.size, ?_, by simp⟩
                          · rintro (h | h)
                            · omega
                            · exact (hmm' _ h).2 rfl
                          · rintro i hi (rfl | h)
                            · have := ho25.size; omega
                            · exact absurd (hmm' i h).1 (by omega)
                          · intro b' hb'
                            cases hb'
                            rcases hb3 with h | ⟨-, h⟩
                            · exact hmm' _ h
                            · have := ho2r.size
                              exact ⟨by omega, by omega⟩
                        case measure => simp [intOf]; omega
                      · have hjq : j' = q := by omega
                        subst hjq
                        go_wp2_with fail
                        refine (state11 w7.heap.size m' false 0 wr hev).mono ?_
                        rintro e w11 ⟨rfl, nq, rfl⟩
                        have hof := ((ho.andThen ho2r (fun i _ h => h))).drewN nq
                        have ho2f := ho2r.drewN nq
                        have hexf : Owns (wr.drewN nq) wc.heap.size (i' + j') (Dk (Dp K vv i') ss j') := hex
                        have hmf : MapIs (wr.drewN nq) m' (i' + j') (Dk (Dp K vv i') ss j') := hm'
                        generalize wr.drewN nq = wf at hof ho2f hexf hmf ⊢
                        clear hex hm' ho2r hev hev0 hwz hmm' ho5 ho25 hm5 hown5 hmb5 hmw hb9 hwc2
                        go_upto_region 40 with fail
                        go_cut [155] from 25 (fun s155 wx => s155 = .bool (decide (i' = 0 ∧ j' = 0)) ∧ wx = wf)
                        case first =>
                          by_cases hz1 : i' = 0
                          · have hz1b : ((i' : Int) == 0) = true := by rw [beq_iff_eq]; omega
                            by_cases hz2 : j' = 0
                            · have hz2b : ((j' : Int) == 0) = true := by rw [beq_iff_eq]; omega
                              have Hz : Hid (i' = 0 ∧ j' = 0) := ⟨hz1, hz2⟩
                              clear hz1 hz2
                              go_wp2_with fail
                              go_meet
                              case rel => exact ⟨congrArg Value.bool (decide_eq_true Hz.out).symm, rfl⟩
                            · have hz2b : ((j' : Int) == 0) = false := by rw [beq_eq_false_iff_ne]; omega
                              have Hz : Hid (¬ (i' = 0 ∧ j' = 0)) := fun h => hz2 h.2
                              clear hz1 hz2
                              go_wp2_with fail
                              go_meet
                              case rel => exact ⟨congrArg Value.bool (decide_eq_false Hz.out).symm, rfl⟩
                          · have hz1b : ((i' : Int) == 0) = false := by rw [beq_eq_false_iff_ne]; omega
                            have Hz : Hid (¬ (i' = 0 ∧ j' = 0)) := fun h => hz1 h.1
                            clear hz1
                            go_wp2_with fail
                            go_meet
                            case rel => exact ⟨congrArg Value.bool (decide_eq_false Hz.out).symm, rfl⟩
                        case rest =>
                          obtain ⟨rfl, rfl⟩ := hcut
                          by_cases hzz : i' = 0 ∧ j' = 0
                          · obtain rfl := hm0'.2 hzz
                            rw [decide_eq_true hzz]
                            go_wp2_with fail
                            go_ret
                            exact ⟨rfl, hof⟩
                          rw [decide_eq_false hzz]
                          rcases hmf with ⟨rfl, -⟩ | ⟨b, rfl, hownf⟩
                          · exact absurd (hm0'.1 rfl) hzz
                          have hbm := Dk_bool (Dp_bool K vv i') ss j' (by rw [← Hn2.out]; exact Nat.le_refl _)
                          have hhas : ∀ t, t < i' → has (Dk (Dp K vv i') ss j') (kLit (K t)) = true := fun t ht => Dk_has (Dp_bool K vv i') ss (Dp_has K vv i' ht) j' (by rw [← Hn2.out]; exact Nat.le_refl _)
                          have hhas2 : ∀ t, t < j' → (Dk (Dp K vv i') ss j').atKey (kLit (ss.getD t ByteArray.empty)) (bLit false) = T ∧ has (Dk (Dp K vv i') ss j') (kLit (ss.getD t ByteArray.empty)) = true := fun t ht => by
                            have h := Dk_at (Dp_bool K vv i').1 ss t (by rw [← Hn2.out]; exact ht) (bLit false)
                            rw [← Hn2.out] at h
                            exact h
                          generalize Dk (Dp K vv i') ss j' = D at hownf hexf hbm hhas hhas2
                          clear hm0' hzz hm0
                          have HH : Hid (∀ t, t < i' → has D (kLit (K t)) = true) := hhas
                          have HH2 : Hid (∀ t, t < j' → D.atKey (kLit (ss.getD t ByteArray.empty)) (bLit false) = T ∧ has D (kLit (ss.getD t ByteArray.empty)) = true) := hhas2
                          have HB : Hid (BoolMap D) := hbm
                          clear hhas hhas2 hbm
                          go_wp2_with (first
                            | (at_len; refine wpList_len_own_g _ rfl (.tmp 161) 28 rfl 9 4 Try.underlying28 _ b _ _ rfl hownf ?_)
                            | (at_len; refine wpList_len_own_g _ rfl (.tmp 163) 28 rfl 9 4 Try.underlying28 _ _ _ _ rfl hexf ?_))
                          go_loop [19] (fun i => ∃ t : Nat, t ≤ i' ∧ i = .int .i64 t) (fun i => i' - (intOf i).toNat)
                          case atStart => exact ⟨0, Nat.zero_le _, rfl⟩
                          case round =>
                            obtain ⟨t, ht, rfl⟩ := hrel
                            by_cases hlt6 : t < i'
                            · obtain ⟨b0, off, rfl, hb0, hc⟩ := hpK'.at (k := t) hlt6
                              have hcell := (ho2f.cell (p := ⟨b0, off + t * 2, none⟩) hb0 (fun h => h)).trans (hc t hlt6).1
                              obtain ⟨v, hv⟩ := HB.out.2 (kLit (K t))
                              have hl1 := owns_look_ok hownf (hKz t hlt6) hv (HH.out t hlt6)
                              have hl2 := owns_look hexf (hKz t hlt6) hv
                              generalize K t = s at hcell hl1 hl2
                              clear hc hpK' hs2' hv
                              go_wp2_with fail
                              go_round
                              case rel => exact ⟨t + 1, by omega, by go_num⟩
                              case measure => simp [intOf]; omega
                            · go_wp2_with fail
                              go_loop [22] (fun i => ∃ t : Nat, t ≤ j' ∧ i = .int .i64 t) (fun i => j' - (intOf i).toNat)
                              case atStart => exact ⟨0, Nat.zero_le _, rfl⟩
                              case round =>
                                obtain ⟨t2, ht2, rfl⟩ := hrel
                                by_cases hlt7 : t2 < j'
                                · obtain ⟨b0, off, rfl, hb0, hc⟩ := hs2'.at (k := t2) (by rw [← Hn2.out]; exact hlt7)
                                  have hcell := (ho2f.cell (p := ⟨b0, off + t2, none⟩) hb0 (fun h => h)).trans (hc t2 (by rw [← Hn2.out]; exact hlt7))
                                  have hl1 := owns_look_ok hownf (hsz _ (mem_getD (ss := ss) (k := t2) (by rw [← Hn2.out]; exact hlt7))) (HH2.out t2 hlt7).1 (HH2.out t2 hlt7).2
                                  generalize ss.getD t2 ByteArray.empty = s at hcell hl1
                                  clear hc hpK' hs2'
                                  go_wp2_with fail
                                  go_round
                                  case rel => exact ⟨t2 + 1, by omega, by go_num⟩
                                  case measure => simp [intOf]; omega
                                · go_wp2_with fail
                                  go_ret
                                  exact ⟨rfl, hof⟩

end Go.Proofs.Qxb6605849a
