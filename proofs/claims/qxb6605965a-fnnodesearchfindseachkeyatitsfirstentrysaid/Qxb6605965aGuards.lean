import Derived.Test.Qxb6605965aW4
namespace Go.Proofs.Qxb6605965a
open Go.RowKit Go.Maps

set_option maxHeartbeats 2000000 in
set_option maxRecDepth 100000 in
theorem bytes21 (a : Option Addr) (n c : Nat) (es : List Ent) (w : World) (hs : EntsAt w a es) (hn : n = es.length) :
    Calls Try.prog 21 #[.slice a n c] w (GuardPost w (n ≤ 1048576 ∧ ∀ j, j < n → Small (es.getD j d0))) := by
  have Hn : Hid (n = es.length) := hn
  clear hn
  by_cases hbig : (1048576 : Int) < n
  · go_enter Try.func21, Try.ntmps21
    go_wp2
    go_ret
    exact .no
  go_enter Try.func21, Try.ntmps21
  go_wp2
  go_loop [3, 4] (fun t i => ∃ k T : Nat, k ≤ n ∧ i = .int .i64 k ∧ T ≤ 1048576 ∧ t = .int .i64 T ∧ Hid (∀ j, j < k → Small (es.getD j d0))) (fun _ i => n - (intOf i).toNat)
  case atStart => exact ⟨0, n, Nat.zero_le _, rfl, by omega, by simp, fun j hj => absurd hj (Nat.not_lt_zero _)⟩
  case round =>
    obtain ⟨k, T, hk, rfl, hT, rfl, HG⟩ := hrel
    by_cases hlt : k < n
    · obtain ⟨b, off, ka, kc, va, vc, rfl, hb, hc1, hc2, -, -, -, -⟩ := hs.at (k := k) (by rw [← Hn.out]; exact hlt)
      have HP : Hid (Small (es.getD k d0) → ∀ j, j < k + 1 → Small (es.getD j d0)) := fun hg j hj => by
        by_cases e : j = k
        · subst e; exact hg
        · exact HG.out j (by omega)
      have HQ : Hid (∀ m p : Nat, m = (es.getD k d0).1.length → p = (es.getD k d0).2.length → m ≤ 1048576 → p ≤ 1048576 → Small (es.getD k d0)) := fun m p h1 h2 h3 h4 => ⟨by rw [← h1]; exact h3, by rw [← h2]; exact h4⟩
      obtain ⟨m, Hm⟩ : ∃ m, Hid (m = (es.getD k d0).1.length) := ⟨_, rfl⟩
      obtain ⟨p, Hp⟩ : ∃ p, Hid (p = (es.getD k d0).2.length) := ⟨_, rfl⟩
      rw [← Hm.out] at hc1
      rw [← Hp.out] at hc2
      clear hs HG
      by_cases h1 : (1048576 : Int) < m
      · go_wp2_with fail
        go_ret; exact .no
      by_cases h2 : (1048576 : Int) < (T : Int) + (m : Int)
      · go_wp2_with fail
        go_ret; exact .no
      by_cases h3 : (1048576 : Int) < p
      · go_wp2_with fail
        go_ret; exact .no
      by_cases h4 : (1048576 : Int) < (T : Int) + (m : Int) + (p : Int)
      · go_wp2_with fail
        go_ret; exact .no
      have HG2 : Hid (∀ j, j < k + 1 → Small (es.getD j d0)) := HP.out (HQ.out m p Hm.out Hp.out (by omega) (by omega))
      go_wp2_with fail
      go_round
      case rel => exact ⟨k + 1, T + m + p, by omega, by go_num, by omega, by go_num, HG2⟩
      case measure => simp [intOf]; omega
    · have hkn : k = n := by omega
      subst hkn
      go_wp2_with fail
      go_ret
      exact .yes ⟨by omega, HG.out⟩

set_option maxHeartbeats 2000000 in
set_option maxRecDepth 100000 in
theorem bytes16 (a ka : Option Addr) (n c kn kc : Nat) (es : List Ent) (w : World) (hs : EntsAt w a es) (hn : n = es.length) :
    Calls Try.prog 16 #[.slice a n c, .slice ka kn kc] w (GuardPost w (n ≤ 1048576 ∧ (∀ j, j < n → Small (es.getD j d0)) ∧ kn ≤ 1048576)) := by
  have Hn : Hid (n = es.length) := hn
  clear hn
  by_cases hbig : (1048576 : Int) < n
  · go_enter Try.func16, Try.ntmps16
    go_wp2
    go_ret
    exact .no
  go_enter Try.func16, Try.ntmps16
  go_wp2
  go_loop [5, 6] (fun t i => ∃ k T : Nat, k ≤ n ∧ i = .int .i64 k ∧ T ≤ 1048576 ∧ t = .int .i64 T ∧ Hid (∀ j, j < k → Small (es.getD j d0))) (fun _ i => n - (intOf i).toNat)
  case atStart => exact ⟨0, n, Nat.zero_le _, rfl, by omega, by simp, fun j hj => absurd hj (Nat.not_lt_zero _)⟩
  case round =>
    obtain ⟨k, T, hk, rfl, hT, rfl, HG⟩ := hrel
    by_cases hlt : k < n
    · obtain ⟨b, off, ka, kc, va, vc, rfl, hb, hc1, hc2, -, -, -, -⟩ := hs.at (k := k) (by rw [← Hn.out]; exact hlt)
      have HP : Hid (Small (es.getD k d0) → ∀ j, j < k + 1 → Small (es.getD j d0)) := fun hg j hj => by
        by_cases e : j = k
        · subst e; exact hg
        · exact HG.out j (by omega)
      have HQ : Hid (∀ m p : Nat, m = (es.getD k d0).1.length → p = (es.getD k d0).2.length → m ≤ 1048576 → p ≤ 1048576 → Small (es.getD k d0)) := fun m p h1 h2 h3 h4 => ⟨by rw [← h1]; exact h3, by rw [← h2]; exact h4⟩
      obtain ⟨m, Hm⟩ : ∃ m, Hid (m = (es.getD k d0).1.length) := ⟨_, rfl⟩
      obtain ⟨p, Hp⟩ : ∃ p, Hid (p = (es.getD k d0).2.length) := ⟨_, rfl⟩
      rw [← Hm.out] at hc1
      rw [← Hp.out] at hc2
      clear hs HG
      by_cases h1 : (1048576 : Int) < m
      · go_wp2_with fail
        go_ret; exact .no
      by_cases h2 : (1048576 : Int) < (T : Int) + (m : Int)
      · go_wp2_with fail
        go_ret; exact .no
      by_cases h3 : (1048576 : Int) < p
      · go_wp2_with fail
        go_ret; exact .no
      by_cases h4 : (1048576 : Int) < (T : Int) + (m : Int) + (p : Int)
      · go_wp2_with fail
        go_ret; exact .no
      have HG2 : Hid (∀ j, j < k + 1 → Small (es.getD j d0)) := HP.out (HQ.out m p Hm.out Hp.out (by omega) (by omega))
      go_wp2_with fail
      go_round
      case rel => exact ⟨k + 1, T + m + p, by omega, by go_num, by omega, by go_num, HG2⟩
      case measure => simp [intOf]; omega
    · have hkn : k = n := by omega
      subst hkn
      clear hs
      by_cases h1 : (1048576 : Int) < kn
      · go_wp2_with fail
        go_ret; exact .no
      by_cases h2 : (1048576 : Int) < (T : Int) + (kn : Int)
      · go_wp2_with fail
        go_ret; exact .no
      go_wp2_with fail
      go_ret
      exact .yes ⟨by omega, HG.out, by omega⟩

end Go.Proofs.Qxb6605965a
