import Derived.Test.Qxb6605849aErr
import Derived.Test.Qxb6605849aErrP
import Derived.Test.Qxb6605849aPath
import Derived.Test.Qxb6605849aSetAt
import Derived.Test.Qxb6605849aBytes
import Derived.Test.Qxb6605849aNotesWalk
import Derived.Test.Qxb6605849aCmp3
import Derived.Deep.Cut
import Derived.Deep.CutRange
import Derived.Deep.RegionWith
namespace Go.Proofs.Qxb6605849a
open Go.RowKit Go.Maps

/-- The path ps, its first k places overwritten by qs. -/
def mix (ps qs : List Elt) : Nat → List Elt
  | 0 => ps
  | k + 1 => (mix ps qs k).set k (qs.getD k dE)
theorem mix_len (ps qs : List Elt) : ∀ k, (mix ps qs k).length = ps.length
  | 0 => rfl
  | k + 1 => by unfold mix; rw [List.length_set]; exact mix_len ps qs k
theorem mix_getD (ps qs : List Elt) (j : Nat) : ∀ k, k ≤ ps.length → (mix ps qs k).getD j dE = if j < k then qs.getD j dE else ps.getD j dE
  | 0, _ => by simp [mix]
  | k + 1, hk => by
    unfold mix
    rw [getD_set _ _ _ (by rw [mix_len]; omega), mix_getD ps qs j k (by omega)]
    by_cases h : j = k
    · subst h; rw [if_pos rfl, if_pos (by omega)]
    · rw [if_neg h]
      by_cases h2 : j < k
      · rw [if_pos h2, if_pos (by omega)]
      · rw [if_neg h2, if_neg (by omega)]

theorem pick2 {α : Type} {k j : Nat} {x : α} {f g : Nat → α} (hx : f k = x) : (if j = k then x else if j < k then f j else g j) = if j < k + 1 then f j else g j := by
  by_cases h1 : j = k
  · subst h1; rw [if_pos rfl, if_pos (by omega), hx]
  · rw [if_neg h1]
    by_cases h2 : j < k
    · rw [if_pos h2, if_pos (by omega)]
    · rw [if_neg h2, if_neg (by omega)]

set_option maxHeartbeats 8000000 in
set_option maxRecDepth 100000 in
theorem snap6 (a a2 : Option Addr) (n c n2 c2 : Nat) (ps qs : List Elt) (w : World) (hp : PathAt w a ps) (hs : PathAt w a2 qs) (hn : n = ps.length) (hn2 : n2 = qs.length)
    (hkz : ∀ e ∈ ps, e.2.size ≤ 9223372036854775807) (hsz : ∀ e ∈ qs, e.2.size ≤ 9223372036854775807) (hnil : a = none → n = 0) (hnil2 : a2 = none → n2 = 0) :
    Calls Try.prog 6 #[.slice a n c, .slice a2 n2 c2] w (TruePost w) := by
  have Hn : Hid (n = ps.length) := hn
  have Hn2 : Hid (n2 = qs.length) := hn2
  have hb24 := bytes24 a a2 n c n2 c2 ps qs w hp hs hn hn2 hkz hsz
  have hp0 : PathAt w a ps := hp
  have hs0 : PathAt w a2 qs := hs
  unfold PathAt at hp hs
  rw [← Hn.out] at hp
  rw [← Hn2.out] at hs
  clear hn hn2
  go_enter Try.func6, Try.ntmps6
  go_wp2_with fail
  refine hb24.mono ?_
  rintro e w' ⟨b, rfl, hww, hb⟩
  obtain rfl := hww.symm
  clear hb24
  cases b with
  | false =>
    go_wp2_with fail
    go_ret
    exact ⟨rfl, .refl _ _⟩
  | true =>
  obtain ⟨hn1, hl1, hn3, hl3⟩ := hb rfl
  clear hb
  by_cases hbig : (65536 : Int) < n
  · go_wp2_with fail
    go_ret
    exact ⟨rfl, .refl _ _⟩
  have hbigd : decide ((65536 : Int) < n) = false := decide_eq_false hbig
  by_cases hbig2 : (65536 : Int) < n2
  · go_wp2_with fail
    go_ret
    exact ⟨rfl, .refl _ _⟩
  have hbigd2 : decide ((65536 : Int) < n2) = false := decide_eq_false hbig2
  go_wp2_with fail
  clear hbigd hbigd2
  go_loop [5, 6] (fun t i => ∃ k : Nat, k ≤ n ∧ i = .int .i64 k ∧ t = .int .i64 (24 * n + 24 * n2 + lens ((keys ps).take k) : Nat)) (fun _ i => n - (intOf i).toNat)
  case atStart => exact ⟨0, Nat.zero_le _, rfl, by simp [lens]⟩
  case round =>
    obtain ⟨k, hk, rfl, rfl⟩ := hrel
    have hle2 := lens_take_le (keys ps) k
    by_cases hlt : k < n
    · obtain ⟨b, off, rfl, hb, hc⟩ := hp.at (k := k) hlt
      have hcell := (hc k hlt).2
      have hsn : Hid (lens ((keys ps).take (k + 1)) = lens ((keys ps).take k) + (ps.getD k dE).2.size) := keys_succ ps k (by rw [← Hn.out]; exact hlt)
      generalize (ps.getD k dE).2 = s at hcell hsn
      have hle3 := lens_take_le (keys ps) (k + 1)
      rw [hsn.out] at hle3
      generalize hL : lens ((keys ps).take k) = L at hsn hle2 hle3 ⊢
      clear hc hp hs hkz hsz hL hp0 hs0
      go_wp2_with fail
      go_round
      case rel => exact ⟨k + 1, by omega, by go_num, by rw [hsn.out]; go_num⟩
      case measure => simp [intOf]; omega
    · have hkn : k = n := by omega
      subst hkn
      have hall : Hid ((keys ps).take k = keys ps) := by unfold Hid; rw [Hn.out, ← keys_len]; exact List.take_length
      rw [hall.out]
      clear hall hle2
      generalize hL : lens (keys ps) = L at hl1 ⊢
      go_wp2_with fail
      go_loop [5, 7] (fun t i => ∃ j : Nat, j ≤ n2 ∧ i = .int .i64 j ∧ t = .int .i64 (24 * k + 24 * n2 + L + lens ((keys qs).take j) : Nat)) (fun _ i => n2 - (intOf i).toNat)
      case atStart => exact ⟨0, Nat.zero_le _, rfl, by simp [lens]⟩
      case round =>
        obtain ⟨j, hj, rfl, rfl⟩ := hrel
        have hle2 := lens_take_le (keys qs) j
        by_cases hlt2 : j < n2
        · obtain ⟨b, off, rfl, hb, hc⟩ := hs.at (k := j) hlt2
          have hcell := (hc j hlt2).2
          have hsn : Hid (lens ((keys qs).take (j + 1)) = lens ((keys qs).take j) + (qs.getD j dE).2.size) := keys_succ qs j (by rw [← Hn2.out]; exact hlt2)
          generalize (qs.getD j dE).2 = s at hcell hsn
          have hle3 := lens_take_le (keys qs) (j + 1)
          rw [hsn.out] at hle3
          generalize hL2 : lens ((keys qs).take j) = L2 at hsn hle2 hle3 ⊢
          clear hc hp hs hkz hsz hL2 hp0 hs0
          go_wp2_with fail
          go_round
          case rel => exact ⟨j + 1, by omega, by go_num, by rw [hsn.out]; go_num⟩
          case measure => simp [intOf]; omega
        · have hjn : j = n2 := by omega
          subst hjn
          have hall : Hid ((keys qs).take j = keys qs) := by unfold Hid; rw [Hn2.out, ← keys_len]; exact List.take_length
          rw [hall.out]
          clear hall hle2
          generalize hL2 : lens (keys qs) = L2 at hl3 ⊢
          by_cases htot : (1048576 : Int) < 24 * (k : Int) + 24 * (j : Int) + (L : Int) + (L2 : Int)
          · go_wp2_with fail
            go_ret; exact ⟨rfl, .refl _ _⟩
          have hc1 := clone25 a k c ps w hp0 Hn.out hn1 hnil
          clear hkz hsz hL hL2 hp hs
          go_wp2_with fail
          refine hc1.mono ?_
          rintro e w1 ⟨a', c', rfl, ho1, hp1, hf1, hz1⟩
          have hc2 := clone25 a2 j c2 qs w1 (PathAt.only hs0 ho1 (fun _ _ _ _ h => h)) Hn2.out hn3 hnil2
          clear hc1
          go_wp2_with fail
          refine hc2.mono ?_
          rintro e w2 ⟨a2', c2', rfl, ho2, hs2, hf2, hz2⟩
          have hp2 := PathAt.only hp1 ho2 (fun _ _ _ _ h => h)
          have ho := ho1.andThen ho2 (fun i _ h => h)
          clear hc2 hp1 ho1 ho2 hnil hnil2 htot hp0 hs0 hl1 hl3 hf1 hf2 hz2
          have hc3 := new16 w2
          go_wp2_with fail
          refine hc3.mono ?_
          rintro e w3 ⟨rfl, hW3, ho3⟩
          have hc4 := split17 a' k c' ps w3 (PathAt.only hp2 ho3 (fun _ _ _ _ h => h)) Hn.out hn1
          clear hc3
          go_wp2_with fail
          refine hc4.mono ?_
          rintro e w4 ⟨x1, d1, x2, d2, rfl, ho4, hr1, hr2⟩
          have hc5 := set18 w2.heap.size x1 x2 k d1 d2 ps [] none w4 (hW3.only ho4 (fun _ _ h => h)) hr1 hr2 Hn.out hn1
          clear hc4 hW3 hr1 hr2
          go_wp2_with fail
          refine hc5.mono ?_
          rintro e w5 ⟨rfl, hW5, ho5⟩
          have hc6 := fail19 w2.heap.size 0 ps none w5 hW5
          clear hc5 hW5
          go_wp2_with fail
          refine hc6.mono ?_
          rintro e w6 ⟨rfl, hW6, ho6⟩
          have hB : Only nothing w2 w6 := (ho3.andThen ho4 (fun i _ h => h)).andThen (ho5.andThen ho6 (fun i _ h => h)) (fun i hi h => by omega)
          clear hc6 ho3 ho4 ho5 ho6
          have hW6' : WalkSt w6 w2.heap.size (mix ps qs 0) (some (0, ps)) := hW6
          clear hW6
          obtain ⟨m, hmk, hmj, Hm⟩ : ∃ m : Nat, m ≤ k ∧ m ≤ j ∧ Hid (m = min k j) := ⟨min k j, Nat.min_le_left _ _, Nat.min_le_right _ _, rfl⟩
          go_upto_if 90 with fail
          go_cut [11] from 87 to 87 (fun s11 wx => s11 = .int .i64 m ∧ wx = w6)
          case first =>
            by_cases hjk : j < k
            · have hjki : (j : Int) < (k : Int) := by omega
              have HH : Hid (j = m) := by have := Hm.out; unfold Hid; omega
              go_wp2_with fail
              go_meet
              case rel => exact ⟨by rw [HH.out], rfl⟩
            · have hjki : decide ((j : Int) < (k : Int)) = false := decide_eq_false (by omega)
              have HH : Hid (k = m) := by have := Hm.out; unfold Hid; omega
              go_wp2_with fail
              go_meet
              case rel => exact ⟨by rw [HH.out], rfl⟩
          case rest =>
          obtain ⟨rfl, hwc⟩ := hcut
          obtain rfl := hwc.symm
          clear Hm
          go_wp2_with fail
          go_loopw [12] (fun i wr => ∃ q : Nat, q ≤ m ∧ i = .int .i64 q ∧ WalkSt wr w2.heap.size (mix ps qs q) (some (0, ps)) ∧ Only nothing w2 wr) (fun i _ => m - (intOf i).toNat)
          case atStart => exact ⟨0, Nat.zero_le _, rfl, hW6', hB⟩
          case round =>
            obtain ⟨q, hq, rfl, hW, hO⟩ := hrel
            by_cases hqm : q < m
            · have hql : q < qs.length := by rw [← Hn2.out]; omega
              obtain ⟨b0, off, hab, hb0, hc⟩ := PairsAt.at hs2 (k := q) hql
              subst hab
              have hcell1 := (hO.cell (p := ⟨b0, off + q * 2, none⟩) hb0 (fun h => h)).trans (hc q hql).1
              have hcell2 := (hO.cell (p := ⟨b0, off + q * 2 + 1, none⟩) hb0 (fun h => h)).trans (hc q hql).2
              have HX : Hid (mix ps qs (q + 1) = (mix ps qs q).set q (qs.getD q dE)) := rfl
              generalize qs.getD q dE = z at hcell1 hcell2 HX
              obtain ⟨x, s⟩ := z
              dsimp only at hcell1 hcell2
              have hc26 := setAt26 w2.heap.size q x s (mix ps qs q) (some (0, ps)) wr.drew (hW.only ((Only.refl nothing _).drew) (fun _ _ h => h)) (by rw [mix_len, ← Hn.out]; omega)
              have hqi : (q : Int) < (m : Int) := by omega
              have hqi2 : (q : Int) < (j : Int) := by omega
              clear hc hs2 hp2 hW hB hW6'
              go_upto_region 28 with fail
              go_region_with (go_at_call 26; refine hc26.mono ?_; rintro e w' ⟨rfl, hW', ho'⟩)
              all_goals go_wp2_with fail
              all_goals go_roundw
              all_goals first
                | (case rel => exact ⟨q + 1, by omega, by go_num, by rw [HX.out]; exact hW', hO.drew.andThen ho' (fun i hi h => by omega)⟩)
                | (case measure => simp [intOf]; omega)
            · have hqm' : q = m := by omega
              subst hqm'
              clear hB hW6'
              have hc7 := err20 w2.heap.size (mix ps qs q) (some (0, ps)) wr hW
              go_wp2_with fail
              refine hc7.mono ?_
              rintro e w7 ⟨rfl, ho7⟩
              have hW7 := hW.only ho7 (fun _ _ h => h)
              have hO7 := hO.andThen ho7 (fun i _ h => h)
              clear hc7 hW hO ho7
              have hc8 := errp21 w2.heap.size (mix ps qs q) ps (some (0, ps)) w7 hW7 rfl
              rw [← Hn.out] at hc8
              go_wp2_with fail
              refine hc8.mono ?_
              rintro e w8 ⟨y1, g1, y2, g2, rfl, ho8, hr1, hr2⟩
              have hW8 := hW7.only ho8 (fun _ _ h => h)
              have hO8 := hO7.andThen ho8 (fun i _ h => h)
              clear hc8 hW7 hO7 ho8
              have hc9 := is23 y1 y2 a' k g1 g2 c' ps w8 hr1 hr2 (PathAt.only hp2 hO8 (fun _ _ _ _ h => h)) Hn.out hn1
              clear hr1 hr2
              have hmks := run_make_pairs (P := Try.prog) 39 41 _ _ 24 Try.underlying39 info41 .i64 .i64 k (by omega) (by omega)
              go_wp2_with (go_at_call 23; refine hc9.mono ?_; rintro e w9 ⟨rfl, ho9⟩)
              have hW9 := hW8.only ho9 (fun _ _ h => h)
              have hO9 := hO8.andThen ho9 (fun i _ h => h)
              clear hc9 hW8 hO8 ho9 hmks
              go_loopw [18] (fun i wr => ∃ t : Nat, t ≤ k ∧ i = .int .i64 t ∧ Only nothing w9 wr ∧ PairRow wr w9.heap.size 41 k (fun j => if j < t then fI ps j else .int .i64 0) (fun j => if j < t then fS ps j else .string ByteArray.empty))
                (fun i _ => k - (intOf i).toNat)
              case atStart => exact ⟨0, Nat.zero_le _, rfl, (Only.refl _ _).alloc _, (pairRow_made w9 _ _ k 41).congr (fun j _ => by simp) (fun j _ => by simp)⟩
              case round =>
                obtain ⟨t, ht, rfl, hoA, hrow⟩ := hrel
                by_cases hlt3 : t < k
                · have htl : t < ps.length := by rw [← Hn.out]; exact hlt3
                  obtain ⟨b0, off, hab, hb0, hc⟩ := PairsAt.at hp2 (k := t) htl
                  subst hab
                  have hcell := ((hO9.andThen hoA (fun i _ h => h)).cell (p := ⟨b0, off + t * 2, none⟩) hb0 (fun h => h)).trans (hc t htl).1
                  have hcell2 := ((hO9.andThen hoA (fun i _ h => h)).cell (p := ⟨b0, off + t * 2 + 1, none⟩) hb0 (fun h => h)).trans (hc t htl).2
                  obtain ⟨v0, hv0⟩ : ∃ v, wr.cell? ⟨w9.heap.size, t * 2, none⟩ = some v := ⟨_, (hrow.cells hlt3).1⟩
                  obtain ⟨v1, hv1⟩ : ∃ v, wr.cell? ⟨w9.heap.size, t * 2 + 1, none⟩ = some v := ⟨_, (hrow.cells hlt3).2⟩
                  have hf0 := World.rowIs.frozen hrow (t * 2)
                  have hf1 := World.rowIs.frozen hrow (t * 2 + 1)
                  have HI : Hid (fI ps t = .int .i64 (ps.getD t dE).1) := rfl
                  have HS : Hid (fS ps t = .string (ps.getD t dE).2) := rfl
                  generalize (ps.getD t dE).1 = x at hcell HI
                  generalize (ps.getD t dE).2 = s at hcell2 HS
                  have hrow' := hrow.set t (.int .i64 x) (.string s)
                  have ho' := (hoA.setCell (p := ⟨w9.heap.size, t * 2, none⟩) (fun h => absurd h (Nat.lt_irrefl _)) (.int .i64 x)).setCell (p := ⟨w9.heap.size, t * 2 + 1, none⟩) (fun h => absurd h (Nat.lt_irrefl _)) (.string s)
                  clear hp2 hs2 hc hrow hoA hW9 hO9
                  go_wp2_with fail
                  go_roundw
                  case rel => exact ⟨t + 1, by omega, by go_num, ho', hrow'.congr (fun j _ => pick HI.out) (fun j _ => pick HS.out)⟩
                  case measure => simp [intOf]; omega
                · have htk : t = k := by omega
                  subst htk
                  have hrA : PairRow wr w9.heap.size 41 t (fun j => if j < 0 then fI qs j else fI ps j) (fun j => if j < 0 then fS qs j else fS ps j) := hrow.congr (fun j hj => (if_pos hj).trans (if_neg (Nat.not_lt_zero j)).symm) (fun j hj => (if_pos hj).trans (if_neg (Nat.not_lt_zero j)).symm)
                  clear hrow
                  obtain ⟨wA, hwA⟩ : ∃ wA, wA = wr := ⟨_, rfl⟩
                  rw [← hwA] at hrA hoA ⊢
                  clear hwA wr
                  go_wp2_with fail
                  go_loopw [19] (fun i wr => ∃ u : Nat, u ≤ q ∧ i = .int .i64 u ∧ Only nothing w9 wr ∧ PairRow wr w9.heap.size 41 t (fun j => if j < u then fI qs j else fI ps j) (fun j => if j < u then fS qs j else fS ps j))
                    (fun i _ => q - (intOf i).toNat)
                  case atStart => exact ⟨0, Nat.zero_le _, rfl, hoA, hrA⟩
                  case round =>
                    obtain ⟨u, hu, rfl, hoB, hrow⟩ := hrel
                    by_cases hlt4 : u < q
                    · have hul : u < qs.length := by rw [← Hn2.out]; omega
                      have hut : u < t := by omega
                      obtain ⟨b0, off, hab, hb0, hc⟩ := PairsAt.at hs2 (k := u) hul
                      subst hab
                      have hcell := ((hO9.andThen hoB (fun i _ h => h)).cell (p := ⟨b0, off + u * 2, none⟩) hb0 (fun h => h)).trans (hc u hul).1
                      have hcell2 := ((hO9.andThen hoB (fun i _ h => h)).cell (p := ⟨b0, off + u * 2 + 1, none⟩) hb0 (fun h => h)).trans (hc u hul).2
                      obtain ⟨v0, hv0⟩ : ∃ v, wr.cell? ⟨w9.heap.size, u * 2, none⟩ = some v := ⟨_, (hrow.cells hut).1⟩
                      obtain ⟨v1, hv1⟩ : ∃ v, wr.cell? ⟨w9.heap.size, u * 2 + 1, none⟩ = some v := ⟨_, (hrow.cells hut).2⟩
                      have hf0 := World.rowIs.frozen hrow (u * 2)
                      have hf1 := World.rowIs.frozen hrow (u * 2 + 1)
                      have HI : Hid (fI qs u = .int .i64 (qs.getD u dE).1) := rfl
                      have HS : Hid (fS qs u = .string (qs.getD u dE).2) := rfl
                      generalize (qs.getD u dE).1 = x at hcell HI
                      generalize (qs.getD u dE).2 = s at hcell2 HS
                      have hrow' := hrow.set u (.int .i64 x) (.string s)
                      have ho' := (hoB.setCell (p := ⟨w9.heap.size, u * 2, none⟩) (fun h => absurd h (Nat.lt_irrefl _)) (.int .i64 x)).setCell (p := ⟨w9.heap.size, u * 2 + 1, none⟩) (fun h => absurd h (Nat.lt_irrefl _)) (.string s)
                      have hu1 : (u : Int) < (q : Int) := by omega
                      have hu2 : (u : Int) < (j : Int) := by omega
                      have hu3 : (u : Int) < (t : Int) := by omega
                      clear hp2 hs2 hc hrow hoB hW9 hO9 hoA hrA
                      go_wp2_with fail
                      go_roundw
                      case rel => exact ⟨u + 1, by omega, by go_num, ho', hrow'.congr (fun j _ => pick2 HI.out) (fun j _ => pick2 HS.out)⟩
                      case measure => simp [intOf]; omega
                    · have huq : u = q := by omega
                      subst huq
                      have hlm : (mix ps qs u).length = t := by rw [mix_len, ← Hn.out]
                      have hrB : PairRow wr w9.heap.size 41 (mix ps qs u).length (fI (mix ps qs u)) (fS (mix ps qs u)) := by
                        rw [hlm]
                        exact hrow.congr (fun j _ => by unfold fI; rw [mix_getD ps qs j u (by rw [← Hn.out]; exact hmk)]; split <;> rfl) (fun j _ => by unfold fS; rw [mix_getD ps qs j u (by rw [← Hn.out]; exact hmk)]; split <;> rfl)
                      have hpM : PathAt wr (some ⟨w9.heap.size, 0, none⟩) (mix ps qs u) := PairRow.at hrB
                      have hB9 := hW9.lt
                      have hWB := hW9.only hoB (fun _ _ h => h)
                      have hOB := hO9.andThen hoB (fun i _ h => h)
                      have hpB := PathAt.only hp2 hOB (fun _ _ _ _ h => h)
                      have hMB := World.rowIs.lt hrB
                      have hp3 := hp2
                      clear hrow hrB hoB hW9 hO9 hoA hrA hs2 hp2
                      have Hlm : Hid ((mix ps qs u).length = t) := hlm
                      clear hlm
                      generalize mix ps qs u = M at hpM hWB Hlm
                      obtain ⟨wB, hwB⟩ : ∃ wB, wB = wr := ⟨_, rfl⟩
                      rw [← hwB] at hpM hWB hOB hpB hMB ⊢
                      clear hwB wr
                      have hcA := fail19 w2.heap.size 1 M (some (0, ps)) wB hWB
                      clear hWB
                      go_wp2_with fail
                      refine hcA.mono ?_
                      rintro e wC ⟨rfl, hWC, hoC⟩
                      have hOC : Only nothing w2 wC := hOB.andThen hoC (fun i hi h => by omega)
                      have hpC := PathAt.only hpM hoC (fun b o t e h => by cases e; omega)
                      clear hcA hpM hOB hpB hMB hoC hB9
                      have hpsC := PathAt.only hp3 hOC (fun _ _ _ _ h => h)
                      have hcF := path22 (some ⟨w9.heap.size, 0, none⟩) a' t t t c' M ps
                      by_cases hneg : cP M ps < 0
                      · have hst : upd (some (0, ps)) 1 M = some (1, M) := if_pos hneg
                        rw [hst] at hWC
                        have hcD := err20 w2.heap.size M (some (1, M)) wC hWC
                        go_wp2_with fail
                        refine hcD.mono ?_
                        rintro e wD ⟨rfl, hoD⟩
                        have hcE := errp21 w2.heap.size M M (some (1, M)) wD (hWC.only hoD (fun _ _ h => h)) rfl
                        rw [Hlm.out] at hcE
                        clear hcD hst hWC
                        go_wp2_with fail
                        refine hcE.mono ?_
                        rintro e wE ⟨y3, g3, y4, g4, rfl, hoE, hr3, hr4⟩
                        have hCE := hoD.andThen hoE (fun i _ h => h)
                        have hcG := hcF wE (PathAt.only hpC hCE (fun _ _ _ _ h => h)) (PathAt.only hpsC hCE (fun _ _ _ _ h => h)) Hlm.out.symm Hn.out hn1
                        have hlt9 : decide (cP M ps < 0) = true := decide_eq_true hneg
                        clear hcE hcF
                        go_wp2_with fail
                        refine hcG.mono ?_
                        rintro e wF ⟨rfl, hoF⟩
                        have hcH := is23 y3 y4 (some ⟨w9.heap.size, 0, none⟩) t g3 g4 t M wF (hr3.only hoF (fun _ _ _ _ h => h)) (hr4.only hoF (fun _ _ _ _ h => h)) (PathAt.only (PathAt.only hpC hCE (fun _ _ _ _ h => h)) hoF (fun _ _ _ _ h => h)) Hlm.out.symm hn1
                        clear hcG hr3 hr4 hpC hpsC
                        generalize cP M ps = z at hneg hlt9
                        go_wp2_with (go_at_call 23; refine hcH.mono ?_; rintro e wG ⟨rfl, hoG⟩)
                        go_ret
                        exact ⟨rfl, ho.andThen (((hOC.andThen hCE (fun i _ h => h)).andThen hoF (fun i _ h => h)).andThen hoG (fun i _ h => h)) (fun i _ h => h)⟩
                      · have hst : upd (some (0, ps)) 1 M = some (0, ps) := if_neg hneg
                        rw [hst] at hWC
                        have hcD := err20 w2.heap.size M (some (0, ps)) wC hWC
                        go_wp2_with fail
                        refine hcD.mono ?_
                        rintro e wD ⟨rfl, hoD⟩
                        have hcE := errp21 w2.heap.size M ps (some (0, ps)) wD (hWC.only hoD (fun _ _ h => h)) rfl
                        rw [← Hn.out] at hcE
                        clear hcD hst hWC
                        go_wp2_with fail
                        refine hcE.mono ?_
                        rintro e wE ⟨y3, g3, y4, g4, rfl, hoE, hr3, hr4⟩
                        have hCE := hoD.andThen hoE (fun i _ h => h)
                        have hcG := hcF wE (PathAt.only hpC hCE (fun _ _ _ _ h => h)) (PathAt.only hpsC hCE (fun _ _ _ _ h => h)) Hlm.out.symm Hn.out hn1
                        have hlt9 : decide (cP M ps < 0) = false := decide_eq_false (by omega)
                        clear hcE hcF
                        go_wp2_with fail
                        refine hcG.mono ?_
                        rintro e wF ⟨rfl, hoF⟩
                        have hcH := is23 y3 y4 a' t g3 g4 c' ps wF (hr3.only hoF (fun _ _ _ _ h => h)) (hr4.only hoF (fun _ _ _ _ h => h)) (PathAt.only (PathAt.only hpsC hCE (fun _ _ _ _ h => h)) hoF (fun _ _ _ _ h => h)) Hn.out hn1
                        clear hcG hr3 hr4 hpC hpsC
                        generalize cP M ps = z at hneg hlt9
                        go_wp2_with (go_at_call 23; refine hcH.mono ?_; rintro e wG ⟨rfl, hoG⟩)
                        go_ret
                        exact ⟨rfl, ho.andThen (((hOC.andThen hCE (fun i _ h => h)).andThen hoF (fun i _ h => h)).andThen hoG (fun i _ h => h)) (fun i _ h => h)⟩

end Go.Proofs.Qxb6605849a
