import Derived.Test.Qxb6605849aSplit
namespace Go.Proofs.Qxb6605849a
open Go.RowKit Go.Maps

set_option maxHeartbeats 400000 in
theorem clone25 (a : Option Addr) (n c : Nat) (ps : List Elt) (w : World) (hp : PathAt w a ps) (hn : n = ps.length) (hle : n ≤ 1048576) (hnil : a = none → n = 0) :
    Calls Try.prog 25 #[.slice a n c] w (FreshPost w n ps) := by
  have Hn : Hid (n = ps.length) := hn
  unfold PathAt at hp
  rw [← Hn.out] at hp
  clear hn
  have hq := fun (w : World) (a : Option Addr) (n c : Nat) => Lib.run_eql_slice_nil (P := Try.prog) w 39 41 a n c 0 0 Try.underlying39
  cases a with
  | none =>
    obtain rfl := hnil rfl
    go_enter Try.func25, Try.ntmps25
    go_wp2
    go_ret
    exact ⟨none, 0, rfl, .refl _ _, .inl Hn.out.symm, (fun b o t e => by cases e), fun _ => rfl⟩
  | some ad =>
    have hmk := run_make_pairs (P := Try.prog) 39 41 _ _ 24 Try.underlying39 info41 .i64 .i64 n (by omega) (by omega)
    go_enter Try.func25, Try.ntmps25
    go_wp2
    go_loopw [4] (fun i wr => ∃ k : Nat, k ≤ n ∧ i = .int .i64 k ∧ Only nothing w wr ∧ PairRow wr w.heap.size 41 n (fun j => if j < k then fI ps j else .int .i64 0) (fun j => if j < k then fS ps j else .string ByteArray.empty))
      (fun i _ => n - (intOf i).toNat)
    case atStart => exact ⟨0, Nat.zero_le _, rfl, (Only.refl _ _).alloc _, (pairRow_made w _ _ n 41).congr (fun j _ => by simp) (fun j _ => by simp)⟩
    case round =>
      obtain ⟨k, hk, rfl, ho, hrow⟩ := hrel
      by_cases hlt : k < n
      · obtain ⟨b, off, hab, hb, hc⟩ := hp.at (k := k) hlt
        obtain rfl : ad = ⟨b, off, none⟩ := Option.some.inj hab
        have hcell := (ho.cell (p := ⟨b, off + k * 2, none⟩) hb (fun h => h)).trans (hc k hlt).1
        have hcell2 := (ho.cell (p := ⟨b, off + k * 2 + 1, none⟩) hb (fun h => h)).trans (hc k hlt).2
        obtain ⟨v0, hv0⟩ : ∃ v, wr.cell? ⟨w.heap.size, k * 2, none⟩ = some v := ⟨_, (hrow.cells hlt).1⟩
        obtain ⟨v1, hv1⟩ : ∃ v, wr.cell? ⟨w.heap.size, k * 2 + 1, none⟩ = some v := ⟨_, (hrow.cells hlt).2⟩
        have hf0 := World.rowIs.frozen hrow (k * 2)
        have hf1 := World.rowIs.frozen hrow (k * 2 + 1)
        have HI : Hid (fI ps k = .int .i64 (ps.getD k dE).1) := rfl
        have HS : Hid (fS ps k = .string (ps.getD k dE).2) := rfl
        generalize (ps.getD k dE).1 = x at hcell HI
        generalize (ps.getD k dE).2 = s at hcell2 HS
        have hrow' := hrow.set k (.int .i64 x) (.string s)
        have ho' := (ho.setCell (p := ⟨w.heap.size, k * 2, none⟩) (fun h => absurd h (Nat.lt_irrefl _)) (.int .i64 x)).setCell (p := ⟨w.heap.size, k * 2 + 1, none⟩) (fun h => absurd h (Nat.lt_irrefl _)) (.string s)
        clear hp hc hrow ho hnil hab
        go_wp2
        go_roundw
        case rel => exact ⟨k + 1, by omega, by go_num, ho', hrow'.congr (fun j _ => pick HI.out) (fun j _ => pick HS.out)⟩
        case measure => simp [intOf]; omega
      · have hkn : k = n := by omega
        subst hkn
        go_wp2
        go_ret
        have hrr : PairRow wr w.heap.size 41 k (fI ps) (fS ps) := hrow.congr (fun j hj => if_pos hj) (fun j hj => if_pos hj)
        refine ⟨_, _, rfl, ho, ?_, fun b o t e => ?_, fun e => by cases e⟩
        · unfold PathAt
          rw [← Hn.out]
          exact hrr.at
        · cases e
          exact ⟨Nat.le_refl _, World.rowIs.lt hrr⟩

set_option maxHeartbeats 1000000 in
set_option maxRecDepth 100000 in
theorem is23 (a1 a2 a : Option Addr) (n c1 c2 c : Nat) (ps : List Elt) (w : World) (h1 : RowAt w a1 n (fI ps)) (h2 : RowAt w a2 n (fS ps)) (hp : PathAt w a ps) (hn : n = ps.length) (hle : n ≤ 1048576) :
    Calls Try.prog 23 #[.slice a1 n c1, .slice a2 n c2, .slice a n c] w (RetPost w (.bool true)) := by
  have Hn : Hid (n = ps.length) := hn
  unfold PathAt at hp
  rw [← Hn.out] at hp
  clear hn
  go_enter Try.func23, Try.ntmps23
  go_wp2
  go_loopw [7] (fun i wr => ∃ k : Nat, k ≤ n ∧ i = .int .i64 k ∧ Only nothing w wr) (fun i _ => n - (intOf i).toNat)
  case atStart => exact ⟨0, Nat.zero_le _, rfl, .refl _ _⟩
  case round =>
    obtain ⟨k, hk, rfl, ho⟩ := hrel
    by_cases hlt : k < n
    · obtain ⟨b, off, rfl, hb, hc⟩ := hp.at (k := k) hlt
      obtain ⟨b1, o1, rfl, hb1, hc1⟩ := h1.at (k := k) hlt
      obtain ⟨b2, o2, rfl, hb2, hc2⟩ := h2.at (k := k) hlt
      have hcell := (ho.cell (p := ⟨b, off + k * 2, none⟩) hb (fun h => h)).trans (hc k hlt).1
      have hcell2 := (ho.cell (p := ⟨b, off + k * 2 + 1, none⟩) hb (fun h => h)).trans (hc k hlt).2
      have hcell3 := (ho.cell (p := ⟨b1, o1 + k, none⟩) hb1 (fun h => h)).trans (hc1 k hlt)
      have hcell4 := (ho.cell (p := ⟨b2, o2 + k, none⟩) hb2 (fun h => h)).trans (hc2 k hlt)
      have HI : Hid (fI ps k = .int .i64 (ps.getD k dE).1) := rfl
      have HS : Hid (fS ps k = .string (ps.getD k dE).2) := rfl
      rw [HI.out] at hcell3
      rw [HS.out] at hcell4
      clear HI HS
      generalize (ps.getD k dE).1 = x at hcell hcell3
      generalize (ps.getD k dE).2 = s at hcell2 hcell4
      have hki : (k : Int) < (n : Int) := by omega
      clear hp hc h1 h2 hc1 hc2
      go_wp2_with fail
      go_quiet (fail)
      go_wp2_with fail
      go_roundw
      case rel => exact ⟨k + 1, by omega, by go_num, ho.drewN _⟩
      case measure => simp [intOf]; omega
    · have hkn : k = n := by omega
      subst hkn
      go_wp2
      go_ret
      exact ⟨rfl, ho⟩

end Go.Proofs.Qxb6605849a
