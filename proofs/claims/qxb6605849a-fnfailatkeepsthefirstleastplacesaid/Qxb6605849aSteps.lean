import Derived.Test.Qxb6605849aBytes
import Derived.Test.Qxb6605849aPath
namespace Go.Proofs.Qxb6605849a
open Go.RowKit Go.Maps

/-- A [][]FailPlace: a row of slices, each a path. -/
def StepsAt (w : World) (a : Option Addr) (ss : List (List Elt)) : Prop :=
  ss.length = 0 ∨ ∃ b off, a = some ⟨b, off, none⟩ ∧ b < w.heap.size ∧ ∀ j, j < ss.length → ∃ aj cj, w.cell? ⟨b, off + j, none⟩ = some (.slice aj (ss.getD j []).length cj) ∧ PathAt w aj (ss.getD j []) ∧ (aj = none → (ss.getD j []).length = 0)
theorem StepsAt.only {w w' : World} {a : Option Addr} {ss : List (List Elt)} (h : StepsAt w a ss) (ho : Only nothing w w') : StepsAt w' a ss := by
  rcases h with h | ⟨b, off, rfl, hb, hc⟩
  · exact .inl h
  · refine .inr ⟨b, off, rfl, Nat.lt_of_lt_of_le hb ho.size, fun j hj => ?_⟩
    obtain ⟨aj, cj, h1, h2, h3⟩ := hc j hj
    exact ⟨aj, cj, (ho.cell (p := ⟨b, off + j, none⟩) hb (fun h => h)).trans h1, PathAt.only h2 ho (fun _ _ _ _ h => h), h3⟩
theorem StepsAt.at {w : World} {a : Option Addr} {ss : List (List Elt)} (h : StepsAt w a ss) {k : Nat} (hk : k < ss.length) :
    ∃ b off aj cj, a = some ⟨b, off, none⟩ ∧ b < w.heap.size ∧ w.cell? ⟨b, off + k, none⟩ = some (.slice aj (ss.getD k []).length cj) ∧ PathAt w aj (ss.getD k []) ∧ (aj = none → (ss.getD k []).length = 0) := by
  rcases h with h | ⟨b, off, rfl, hb, hc⟩
  · exact absurd hk (by omega)
  · obtain ⟨aj, cj, h1, h2, h3⟩ := hc k hk
    exact ⟨b, off, aj, cj, rfl, hb, h1, h2, h3⟩

def Good (p : List Elt) : Prop := p.length ≤ 1048576 ∧ lens (keys p) ≤ 1048576

set_option maxHeartbeats 2000000 in
set_option maxRecDepth 100000 in
theorem bytes14 (a : Option Addr) (n c : Nat) (ss : List (List Elt)) (w : World) (hs : StepsAt w a ss) (hn : n = ss.length) (hz : ∀ j, j < n → ∀ e ∈ ss.getD j [], e.2.size ≤ 9223372036854775807) :
    Calls Try.prog 14 #[.slice a n c] w (GuardPost w (n ≤ 1048576 ∧ ∀ j, j < n → Good (ss.getD j []))) := by
  have Hn : Hid (n = ss.length) := hn
  clear hn
  by_cases hbig : (1048576 : Int) < n
  · go_enter Try.func14, Try.ntmps14
    go_wp2
    go_ret
    exact .no
  go_enter Try.func14, Try.ntmps14
  go_wp2
  go_loop [3, 4] (fun t i => ∃ k T : Nat, k ≤ n ∧ i = .int .i64 k ∧ T ≤ 1048576 ∧ t = .int .i64 T ∧ Hid (∀ j, j < k → Good (ss.getD j []))) (fun _ i => n - (intOf i).toNat)
  case atStart => exact ⟨0, n, Nat.zero_le _, rfl, by omega, by simp, fun j hj => absurd hj (Nat.not_lt_zero _)⟩
  case round =>
    obtain ⟨k, T, hk, rfl, hT, rfl, HG⟩ := hrel
    by_cases hlt : k < n
    · have hkl : k < ss.length := by rw [← Hn.out]; exact hlt
      obtain ⟨b, off, aj, cj, rfl, hb, hcell, hp, -⟩ := hs.at hkl
      have hzk := hz k hlt
      have HE : Hid (∀ j, j < k + 1 → j ≠ k → Good (ss.getD j [])) := fun j hj hne => HG.out j (by omega)
      have HP : Hid (∀ P, P = ss.getD k [] → Good P → ∀ j, j < k + 1 → Good (ss.getD j [])) := fun P hP hg j hj => by
        by_cases e : j = k
        · subst e; rw [← hP]; exact hg
        · exact HE.out j hj e
      clear HE HG
      generalize ss.getD k [] = P at hcell hp hzk HP
      have HP2 := HP.out P rfl
      clear HP
      have HP : Hid (Good P → ∀ j, j < k + 1 → Good (ss.getD j [])) := HP2
      clear HP2 hs hz
      obtain ⟨m, Hm⟩ : ∃ m, Hid (m = P.length) := ⟨_, rfl⟩
      unfold PathAt at hp
      rw [← Hm.out] at hcell hp
      by_cases hb1 : (1048576 : Int) < m
      · go_wp2_with fail
        go_ret; exact .no
      have hb1d : decide ((1048576 : Int) < m) = false := decide_eq_false hb1
      by_cases hb2 : (1048576 : Int) < (T : Int) + (m : Int)
      · go_wp2_with fail
        go_ret; exact .no
      have hb2d : decide ((1048576 : Int) < (T : Int) + (m : Int)) = false := decide_eq_false hb2
      go_wp2_with fail
      go_loop [3, 5] (fun t i => ∃ j : Nat, j ≤ m ∧ i = .int .i64 j ∧ T + m + lens ((keys P).take j) ≤ 1048576 ∧ t = .int .i64 (T + m + lens ((keys P).take j) : Nat)) (fun _ i => m - (intOf i).toNat)
      case atStart => exact ⟨0, Nat.zero_le _, rfl, by simp [lens]; omega, by simp [lens]⟩
      case round =>
        obtain ⟨j, hj, rfl, hle, rfl⟩ := hrel
        by_cases hlt2 : j < m
        · obtain ⟨b2, o2, rfl, hb2, hc2⟩ := hp.at (k := j) hlt2
          have hcell2 := (hc2 j hlt2).2
          have hsk := hzk _ (mem_getDE (ps := P) (k := j) (by rw [← Hm.out]; exact hlt2))
          have hsn : Hid (lens ((keys P).take (j + 1)) = lens ((keys P).take j) + (P.getD j dE).2.size) := keys_succ P j (by rw [← Hm.out]; exact hlt2)
          generalize (P.getD j dE).2 = s at hcell2 hsk hsn
          generalize hL2 : lens ((keys P).take j) = L2 at hle hsn ⊢
          clear hc2 hp hzk hL2
          go_wp2_with fail
          · go_ret; exact .no
          · go_ret; exact .no
          · go_round
            case rel => exact ⟨j + 1, by omega, by go_num, by rw [hsn.out]; omega, by rw [hsn.out]; go_num⟩
            case measure => simp [intOf]; omega
        · have hjn : j = m := by omega
          subst hjn
          have hall : Hid ((keys P).take j = keys P) := by unfold Hid; rw [Hm.out, ← keys_len]; exact List.take_length
          rw [hall.out] at hle ⊢
          have HPG : Hid (∀ j, j < k + 1 → Good (ss.getD j [])) := HP.out ⟨by rw [← Hm.out]; omega, by omega⟩
          generalize lens (keys P) = L at hle ⊢
          clear hall hp hzk HP
          go_wp2_with fail
          go_round
          case rel => exact ⟨k + 1, T + j + L, by omega, by go_num, hle, rfl, HPG⟩
          case measure => simp [intOf]; omega
    · have hkn : k = n := by omega
      subst hkn
      go_wp2_with fail
      go_ret
      exact .yes ⟨by omega, HG.out⟩

theorem info39 : (Try.prog.info? 39).map (fun i => (i.zero, i.size, i.bytes)) = some (some (.slice none 0 0), 1, 24) := by kernel_rfl

def StepsPost (w : World) (n : Nat) (ss : List (List Elt)) (e : Ending) (w' : World) : Prop :=
  ∃ a' c', e = .returned (.slice a' n c') ∧ Only nothing w w' ∧ StepsAt w' a' ss

set_option maxHeartbeats 2000000 in
set_option maxRecDepth 100000 in
theorem clone15 (a : Option Addr) (n c : Nat) (ss : List (List Elt)) (w : World) (hs : StepsAt w a ss) (hn : n = ss.length) (hle : n ≤ 1048576) (hg : ∀ j, j < n → Good (ss.getD j [])) (hnil : a = none → n = 0) :
    Calls Try.prog 15 #[.slice a n c] w (StepsPost w n ss) := by
  have Hn : Hid (n = ss.length) := hn
  clear hn
  have hq := fun (w : World) (a : Option Addr) (n c : Nat) => Lib.run_eql_slice_nil (P := Try.prog) w 37 39 a n c 0 0 Try.underlying37
  cases a with
  | none =>
    obtain rfl := hnil rfl
    go_enter Try.func15, Try.ntmps15
    go_wp2_with fail
    go_ret
    exact ⟨none, 0, rfl, .refl _ _, .inl Hn.out.symm⟩
  | some ad =>
    have hmk := run_make_row' (P := Try.prog) 37 39 _ 24 Try.underlying37 info39 rfl .i64 .i64 n (by omega) (by omega)
    go_enter Try.func15, Try.ntmps15
    go_wp2_with fail
    go_loopw [4] (fun i wr => ∃ (k : Nat) (f : Nat → Value), k ≤ n ∧ i = .int .i64 k ∧ Only nothing w wr ∧ wr.rowIs w.heap.size 39 n f ∧
        Hid (∀ j, j < k → ∃ aj cj, f j = .slice aj (ss.getD j []).length cj ∧ PathAt wr aj (ss.getD j []) ∧ (aj = none → (ss.getD j []).length = 0) ∧ ∀ b o t, aj = some ⟨b, o, t⟩ → w.heap.size < b))
      (fun i _ => n - (intOf i).toNat)
    case atStart => exact ⟨0, _, Nat.zero_le _, rfl, (Only.refl _ _).alloc _, World.rowIs_made w _ n 39, fun j hj => absurd hj (Nat.not_lt_zero _)⟩
    case round =>
      obtain ⟨k, f, hk, rfl, ho, hrow, HF⟩ := hrel
      by_cases hlt : k < n
      · obtain ⟨b, off, aj, cj, hab, hb, hcell0, hp0, hnil0⟩ := hs.at (k := k) (by rw [← Hn.out]; exact hlt)
        obtain rfl : ad = ⟨b, off, none⟩ := Option.some.inj hab
        have hcell := (ho.cell (p := ⟨b, off + k, none⟩) hb (fun h => h)).trans hcell0
        have hpk := PathAt.only hp0 ho (fun _ _ _ _ h => h)
        have hgk := hg k hlt
        obtain ⟨P, HPe⟩ : ∃ P, Hid (P = ss.getD k []) := ⟨_, rfl⟩
        rw [← HPe.out] at hcell hpk hgk hnil0
        obtain ⟨m, Hm⟩ : ∃ m, Hid (m = P.length) := ⟨_, rfl⟩
        rw [← Hm.out] at hcell hnil0
        have hc25 := clone25 aj m cj P wr hpk Hm.out (by rw [Hm.out]; exact hgk.1) hnil0
        have hrl := hrow.lt
        clear hcell0 hp0 hs hg hnil hab hpk hgk
        go_wp2_with fail
        refine hc25.mono ?_
        rintro e w1 ⟨a1, c1, rfl, ho1, hp1, hf1, hn1⟩
        have hrow1 : w1.rowIs w.heap.size 39 n f := World.rowIs.of_block hrow (ho1.block _ hrl (fun h => h))
        obtain ⟨v0, hv0⟩ : ∃ v, w1.cell? ⟨w.heap.size, k, none⟩ = some v := ⟨_, hrow1.cell hlt⟩
        have hf0 := hrow1.frozen k
        have hrow2 := hrow1.set k (.slice a1 m c1)
        have hoB := (Only.refl (fun i => i = w.heap.size) w1).setCell (p := ⟨w.heap.size, k, none⟩) (fun _ => rfl) (.slice a1 m c1)
        have hoA : Only nothing w _ := (ho.andThen ho1 (fun i _ h => h)).andThen hoB (fun i hi h => absurd h (Nat.ne_of_lt hi))
        have HF2 : Hid (∀ j, j < k + 1 → ∃ aj cj, (if j = k then Value.slice a1 m c1 else f j) = .slice aj (ss.getD j []).length cj ∧ PathAt (w1.setCell ⟨w.heap.size, k, none⟩ (.slice a1 m c1)) aj (ss.getD j []) ∧ (aj = none → (ss.getD j []).length = 0) ∧ ∀ b o t, aj = some ⟨b, o, t⟩ → w.heap.size < b) := fun j hj => by
          by_cases e : j = k
          · subst e
            rw [if_pos rfl, ← HPe.out, ← Hm.out]
            exact ⟨a1, c1, rfl, PathAt.only hp1 hoB (fun b o t e h => by have := hf1 b o t e; omega), hn1, fun b o t e => by have := hf1 b o t e; omega⟩
          · rw [if_neg e]
            obtain ⟨aj, cj, h1, h2, h3, h4⟩ := HF.out j (by omega)
            exact ⟨aj, cj, h1, PathAt.only (PathAt.only h2 ho1 (fun _ _ _ _ h => h)) hoB (fun b o t e h => by have := h4 b o t e; omega), h3, h4⟩
        clear hrow hrow1 hc25 hp1 HF ho ho1 hoB hn1 hf1 hcell
        go_wp2_with fail
        go_roundw
        case rel => exact ⟨k + 1, _, by omega, by go_num, hoA, hrow2, HF2⟩
        case measure => simp [intOf]; omega
      · have hkn : k = n := by omega
        subst hkn
        go_wp2_with fail
        go_ret
        refine ⟨_, _, rfl, ho, .inr ⟨_, 0, rfl, hrow.lt, fun j hj => ?_⟩⟩
        have hj' : j < k := by rw [Hn.out]; exact hj
        obtain ⟨aj, cj, h1, h2, h3, -⟩ := HF.out j hj'
        exact ⟨aj, cj, by rw [Nat.zero_add, hrow.cell hj', h1], h2, h3⟩

end Go.Proofs.Qxb6605849a
