import Derived.Test.Qxb6605965aW3
namespace Go.Proofs.Qxb6605965a
open Go.RowKit Go.Maps

def GuardPost (w : World) (p : Prop) (e : Ending) (w' : World) : Prop := ∃ b, e = .returned (.bool b) ∧ w' = w ∧ (b = true → p)
theorem GuardPost.no {w : World} {p : Prop} : GuardPost w p (.returned (.bool false)) w := ⟨false, rfl, rfl, fun h => by cases h⟩
theorem GuardPost.yes {w : World} {p : Prop} (h : p) : GuardPost w p (.returned (.bool true)) w := ⟨true, rfl, rfl, fun _ => h⟩

set_option maxHeartbeats 2000000 in
set_option maxRecDepth 100000 in
theorem bytes10 (a : Option Addr) (n c : Nat) (es : List Ent) (w : World) (hs : EntsAt w a es) (hn : n = es.length) :
    Calls Try.prog 10 #[.slice a n c] w (GuardPost w (n ≤ 1048576 ∧ ∀ j, j < n → Small (es.getD j d0))) := by
  have Hn : Hid (n = es.length) := hn
  clear hn
  by_cases hbig : (1048576 : Int) < n
  · go_enter Try.func10, Try.ntmps10
    go_wp2
    go_ret
    exact .no
  go_enter Try.func10, Try.ntmps10
  go_wp2
  go_loop [3, 4] (fun t i => ∃ k T : Nat, k ≤ n ∧ i = .int .i64 k ∧ T ≤ 1048576 ∧ t = .int .i64 T ∧ Hid (∀ j, j < k → Small (es.getD j d0))) (fun _ i => n - (intOf i).toNat)
  case atStart => exact ⟨0, n, Nat.zero_le _, rfl, by omega, by simp, fun j hj => absurd hj (Nat.not_lt_zero _)⟩
  case round =>
    obtain ⟨k, T, hk, rfl, hT, rfl, HG⟩ := hrel
    by_cases hlt : k < n
    · obtain ⟨b, off, ka, kc, va, vc, rfl, hb, hc1, hc2, -, -, -, -⟩ := hs.at (k := k) (by rw [← Hn.out]; exact hlt)
      have HP : Hid (Small (es.getD k d0) → ∀ j, j < k + 1 → Small (es.getD j d0)) := fun hg j hj => by
        by_cases e : j = k
        · subst e; exact hg
        · exact HG.out j (by omega)
      have HQ : Hid (∀ m p : Nat, m = (es.getD k d0).1.length → p = (es.getD k d0).2.length → m ≤ 1048576 → p ≤ 1048576 → Small (es.getD k d0)) := fun m p h1 h2 h3 h4 => ⟨by rw [← h1]; exact h3, by rw [← h2]; exact h4⟩
      obtain ⟨m, Hm⟩ : ∃ m, Hid (m = (es.getD k d0).1.length) := ⟨_, rfl⟩
      obtain ⟨p, Hp⟩ : ∃ p, Hid (p = (es.getD k d0).2.length) := ⟨_, rfl⟩
      rw [← Hm.out] at hc1
      rw [← Hp.out] at hc2
      clear hs HG
      by_cases h1 : (1048576 : Int) < m
      · go_wp2_with fail
        go_ret; exact .no
      by_cases h2 : (1048576 : Int) < (T : Int) + (m : Int)
      · go_wp2_with fail
        go_ret; exact .no
      by_cases h3 : (1048576 : Int) < p
      · go_wp2_with fail
        go_ret; exact .no
      by_cases h4 : (1048576 : Int) < (T : Int) + (m : Int) + (p : Int)
      · go_wp2_with fail
        go_ret; exact .no
      have HG2 : Hid (∀ j, j < k + 1 → Small (es.getD j d0)) := HP.out (HQ.out m p Hm.out Hp.out (by omega) (by omega))
      go_wp2_with fail
      go_round
      case rel => exact ⟨k + 1, T + m + p, by omega, by go_num, by omega, by go_num, HG2⟩
      case measure => simp [intOf]; omega
    · have hkn : k = n := by omega
      subst hkn
      go_wp2_with fail
      go_ret
      exact .yes ⟨by omega, HG.out⟩

/-- What zzEntriesBytes counts. -/
def tot (es : List Ent) : Nat := (es.map fun e => 48 + e.1.length + e.2.length).sum
theorem tot_take_succ (es : List Ent) (k : Nat) (hk : k < es.length) : tot (es.take (k + 1)) = tot (es.take k) + (48 + (es.getD k d0).1.length + (es.getD k d0).2.length) := by
  unfold tot
  rw [List.take_add_one, List.getElem?_eq_getElem hk, List.map_append, List.sum_append]
  have e : es.getD k d0 = es[k] := by simp [List.getD, hk]
  rw [e]
  rfl
theorem tot_take_le (es : List Ent) (k : Nat) : tot (es.take k) ≤ tot es := by
  have h : tot es = tot (es.take k) + tot (es.drop k) := by
    unfold tot
    rw [← List.sum_append, ← List.map_append, List.take_append_drop]
  omega
def TotPost (w : World) (es : List Ent) (e : Ending) (w' : World) : Prop :=
  ∃ T : Nat, e = .returned (.int .i64 T) ∧ Only nothing w w' ∧ T ≤ 1048577 ∧ (T ≤ 1048576 → tot es = T)

set_option maxHeartbeats 2000000 in
set_option maxRecDepth 100000 in
theorem ebytes11 (a : Option Addr) (n c : Nat) (es : List Ent) (w : World) (hs : EntsAt w a es) (hn : n = es.length) (hb : n ≤ 1048576) (hg : ∀ j, j < n → Small (es.getD j d0)) :
    Calls Try.prog 11 #[.slice a n c] w (TotPost w es) := by
  have Hn : Hid (n = es.length) := hn
  clear hn
  go_enter Try.func11, Try.ntmps11
  go_wp2
  go_loopw [3, 4] (fun t i wr => ∃ k T : Nat, k ≤ n ∧ i = .int .i64 k ∧ T ≤ 1048576 ∧ t = .int .i64 T ∧ Hid (tot (es.take k) = T) ∧ Only nothing w wr) (fun _ i _ => n - (intOf i).toNat)
  case atStart => exact ⟨0, 0, Nat.zero_le _, rfl, by omega, rfl, by show _ = _; simp [tot], .refl _ _⟩
  case round =>
    obtain ⟨k, T, hk, rfl, hT, rfl, HT, ho⟩ := hrel
    by_cases hlt : k < n
    · have hkl : k < es.length := by rw [← Hn.out]; exact hlt
      obtain ⟨b, off, ka, kc, va, vc, hab, hbb, hc1, hc2, -, -, -, -⟩ := hs.at hkl
      subst hab
      have hcell := (ho.cell (p := ⟨b, off + k * 2, none⟩) hbb (fun h => h)).trans hc1
      have hcell2 := (ho.cell (p := ⟨b, off + k * 2 + 1, none⟩) hbb (fun h => h)).trans hc2
      obtain ⟨m, Hm⟩ : ∃ m, Hid (m = (es.getD k d0).1.length) := ⟨_, rfl⟩
      obtain ⟨p, Hp⟩ : ∃ p, Hid (p = (es.getD k d0).2.length) := ⟨_, rfl⟩
      have hgk := hg k hlt
      have hm1 : m ≤ 1048576 := by rw [Hm.out]; exact hgk.1
      have hp1 : p ≤ 1048576 := by rw [Hp.out]; exact hgk.2
      have HT2 : Hid (tot (es.take (k + 1)) = T + (48 + m + p)) := by
        show _ = _
        rw [tot_take_succ es k hkl, HT.out, Hm.out, Hp.out]
      rw [← Hm.out] at hcell
      rw [← Hp.out] at hcell2
      have hki : (k : Int) < (n : Int) := by omega
      clear hc1 hc2 hs hg hgk HT
      by_cases h4 : (1048576 : Int) < (T : Int) + (48 + (m : Int) + (p : Int))
      · have HB : Hid (1048576 < tot es) := by
          show _ < _
          have := tot_take_le es (k + 1)
          rw [HT2.out] at this
          omega
        go_wp2_with fail
        go_quiet (fail)
        go_wp2_with fail
        go_ret
        exact ⟨1048577, rfl, ho.drewN _, by omega, fun h => by omega⟩
      go_wp2_with fail
      go_quiet (fail)
      go_wp2_with fail
      go_roundw
      case rel => exact ⟨k + 1, T + (48 + m + p), by omega, by go_num, by omega, by go_num, HT2, ho.drewN _⟩
      case measure => simp [intOf]; omega
    · have hkn : k = n := by omega
      subst hkn
      have HE : Hid (tot es = T) := by
        have h := HT.out
        have e : es.take k = es := by rw [Hn.out]; exact List.take_length
        rw [e] at h
        exact h
      go_wp2_with fail
      go_ret
      exact ⟨T, rfl, ho, by omega, fun _ => HE.out⟩

end Go.Proofs.Qxb6605965a
