import Derived.Test.Qxb6605849aWk2
namespace Go.Proofs.Qxb6605849a
open Go.RowKit Go.Maps

/-- The slice's first n elements are pairs of cells. -/
def PairsAt (w : World) (a : Option Addr) (n : Nat) (f g : Nat → Value) : Prop :=
  n = 0 ∨ ∃ b off, a = some ⟨b, off, none⟩ ∧ b < w.heap.size ∧ ∀ j, j < n → w.cell? ⟨b, off + j * 2, none⟩ = some (f j) ∧ w.cell? ⟨b, off + j * 2 + 1, none⟩ = some (g j)

theorem PairsAt.only {S : Nat → Prop} {w w' : World} {a : Option Addr} {n : Nat} {f g : Nat → Value} (h : PairsAt w a n f g) (ho : Only S w w') (hs : ∀ b o t, a = some ⟨b, o, t⟩ → ¬ S b) : PairsAt w' a n f g := by
  rcases h with h | ⟨b, off, rfl, hb, hc⟩
  · exact .inl h
  · exact .inr ⟨b, off, rfl, Nat.lt_of_lt_of_le hb ho.size, fun j hj => ⟨(ho.cell (p := ⟨b, off + j * 2, none⟩) hb (hs b off none rfl)).trans (hc j hj).1, (ho.cell (p := ⟨b, off + j * 2 + 1, none⟩) hb (hs b off none rfl)).trans (hc j hj).2⟩⟩

theorem PairsAt.at {w : World} {a : Option Addr} {n : Nat} {f g : Nat → Value} (h : PairsAt w a n f g) {k : Nat} (hk : k < n) :
    ∃ b off, a = some ⟨b, off, none⟩ ∧ b < w.heap.size ∧ ∀ j, j < n → w.cell? ⟨b, off + j * 2, none⟩ = some (f j) ∧ w.cell? ⟨b, off + j * 2 + 1, none⟩ = some (g j) := by
  rcases h with rfl | h
  · exact absurd hk (Nat.not_lt_zero _)
  · exact h

set_option maxHeartbeats 400000 in
theorem bytes12 (a a2 : Option Addr) (n c n2 c2 : Nat) (kk ss : List ByteArray) (vv : Nat → Value) (w : World) (hp : PairsAt w a n (fun j => .string (kk.getD j ByteArray.empty)) vv) (hs : StrsAt w a2 ss) (hn : n = kk.length) (hn2 : n2 = ss.length)
    (hkz : ∀ s ∈ kk, s.size ≤ 9223372036854775807) (hsz : ∀ s ∈ ss, s.size ≤ 9223372036854775807) :
    Calls Try.prog 12 #[.slice a n c, .slice a2 n2 c2] w (GuardPost w (n ≤ 1048576 ∧ lens kk ≤ 1048576 ∧ n2 ≤ 1048576 ∧ lens ss ≤ 1048576)) := by
  have Hn : Hid (n = kk.length) := hn
  have Hn2 : Hid (n2 = ss.length) := hn2
  clear hn hn2
  by_cases hbig : (1048576 : Int) < n
  · go_enter Try.func12, Try.ntmps12
    go_wp2
    go_ret
    exact .no
  go_enter Try.func12, Try.ntmps12
  go_wp2
  go_loop [5, 6] (fun t i => ∃ k : Nat, k ≤ n ∧ i = .int .i64 k ∧ n + lens (kk.take k) ≤ 1048576 ∧ t = .int .i64 (n + lens (kk.take k) : Nat)) (fun _ i => n - (intOf i).toNat)
  case atStart => exact ⟨0, Nat.zero_le _, rfl, by simp [lens]; omega, by simp [lens]⟩
  case round =>
    obtain ⟨k, hk, rfl, hle, rfl⟩ := hrel
    by_cases hlt : k < n
    · obtain ⟨b, off, rfl, hb, hc⟩ := hp.at (k := k) hlt
      have hcell := (hc k hlt).1
      have hsk := hkz _ (mem_getD (ss := kk) (k := k) (by rw [← Hn.out]; exact hlt))
      have hsn : Hid (lens (kk.take (k + 1)) = lens (kk.take k) + (kk.getD k ByteArray.empty).size) := lens_take_succ kk k (by rw [← Hn.out]; exact hlt)
      generalize kk.getD k ByteArray.empty = s at hcell hsk hsn
      generalize hL : lens (kk.take k) = L at hle hsn ⊢
      clear hc hp hkz hL hs hsz
      go_wp2
      · go_ret; exact .no
      · go_ret; exact .no
      · go_round
        case rel => exact ⟨k + 1, by omega, by go_num, by rw [hsn.out]; omega, by rw [hsn.out]; go_num⟩
        case measure => simp [intOf]; omega
    · have hkn : k = n := by omega
      subst hkn
      have hall : Hid (kk.take k = kk) := by unfold Hid; rw [Hn.out]; exact List.take_length
      rw [hall.out] at hle ⊢
      generalize hL : lens kk = L at hle ⊢
      clear hall hp hkz
      by_cases hbig2 : (1048576 : Int) < n2
      · go_wp2
        go_ret
        exact .no
      by_cases hbig3 : (1048576 : Int) < (k : Int) + (L : Int) + (n2 : Int)
      · go_wp2
        go_ret
        exact .no
      go_wp2
      go_loop [5, 7] (fun t i => ∃ j : Nat, j ≤ n2 ∧ i = .int .i64 j ∧ k + L + n2 + lens (ss.take j) ≤ 1048576 ∧ t = .int .i64 (k + L + n2 + lens (ss.take j) : Nat)) (fun _ i => n2 - (intOf i).toNat)
      case atStart => exact ⟨0, Nat.zero_le _, rfl, by simp [lens]; omega, by simp [lens]⟩
      case round =>
        obtain ⟨j, hj, rfl, hle2, rfl⟩ := hrel
        by_cases hlt2 : j < n2
        · obtain ⟨b, off, rfl, hb, hc⟩ := hs.at (k := j) (by rw [← Hn2.out]; exact hlt2)
          have hcell := hc j (by rw [← Hn2.out]; exact hlt2)
          have hsk := hsz _ (mem_getD (ss := ss) (k := j) (by rw [← Hn2.out]; exact hlt2))
          have hsn : Hid (lens (ss.take (j + 1)) = lens (ss.take j) + (ss.getD j ByteArray.empty).size) := lens_take_succ ss j (by rw [← Hn2.out]; exact hlt2)
          generalize ss.getD j ByteArray.empty = s at hcell hsk hsn
          generalize hL2 : lens (ss.take j) = L2 at hle2 hsn ⊢
          clear hc hs hsz hL2
          go_wp2
          · go_ret; exact .no
          · go_ret; exact .no
          · go_round
            case rel => exact ⟨j + 1, by omega, by go_num, by rw [hsn.out]; omega, by rw [hsn.out]; go_num⟩
            case measure => simp [intOf]; omega
        · have hjn : j = n2 := by omega
          subst hjn
          have hall : Hid (ss.take j = ss) := by unfold Hid; rw [Hn2.out]; exact List.take_length
          go_wp2
          go_ret
          rw [hall.out] at hle2
          exact .yes ⟨by omega, by omega, by omega, by omega⟩

end Go.Proofs.Qxb6605849a
