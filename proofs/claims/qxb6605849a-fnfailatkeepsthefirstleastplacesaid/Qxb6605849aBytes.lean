import Derived.Test.Qxb6605849aSplit
namespace Go.Proofs.Qxb6605849a
open Go.RowKit Go.Maps

def keys (ps : List Elt) : List ByteArray := ps.map (·.2)
theorem keys_len (ps : List Elt) : (keys ps).length = ps.length := by simp [keys]
theorem keys_getD (ps : List Elt) (k : Nat) (hk : k < ps.length) : (keys ps).getD k ByteArray.empty = (ps.getD k dE).2 := by simp [keys, hk]
theorem keys_succ (ps : List Elt) (k : Nat) (hk : k < ps.length) : lens ((keys ps).take (k + 1)) = lens ((keys ps).take k) + (ps.getD k dE).2.size := by
  rw [lens_take_succ _ k (by rw [keys_len]; exact hk), keys_getD ps k hk]
theorem mem_getDE {ps : List Elt} {k : Nat} (hk : k < ps.length) : ps.getD k dE ∈ ps := by
  simp [List.getD, hk]

set_option maxHeartbeats 400000 in
theorem bytes24 (a a2 : Option Addr) (n c n2 c2 : Nat) (ps qs : List Elt) (w : World) (hp : PathAt w a ps) (hs : PathAt w a2 qs) (hn : n = ps.length) (hn2 : n2 = qs.length)
    (hkz : ∀ e ∈ ps, e.2.size ≤ 9223372036854775807) (hsz : ∀ e ∈ qs, e.2.size ≤ 9223372036854775807) :
    Calls Try.prog 24 #[.slice a n c, .slice a2 n2 c2] w (GuardPost w (n ≤ 1048576 ∧ lens (keys ps) ≤ 1048576 ∧ n2 ≤ 1048576 ∧ lens (keys qs) ≤ 1048576)) := by
  have Hn : Hid (n = ps.length) := hn
  have Hn2 : Hid (n2 = qs.length) := hn2
  unfold PathAt at hp hs
  rw [← Hn.out] at hp
  rw [← Hn2.out] at hs
  clear hn hn2
  by_cases hbig : (1048576 : Int) < n
  · go_enter Try.func24, Try.ntmps24
    go_wp2
    go_ret
    exact .no
  go_enter Try.func24, Try.ntmps24
  go_wp2
  go_loop [5, 6] (fun t i => ∃ k : Nat, k ≤ n ∧ i = .int .i64 k ∧ n + lens ((keys ps).take k) ≤ 1048576 ∧ t = .int .i64 (n + lens ((keys ps).take k) : Nat)) (fun _ i => n - (intOf i).toNat)
  case atStart => exact ⟨0, Nat.zero_le _, rfl, by simp [lens]; omega, by simp [lens]⟩
  case round =>
    obtain ⟨k, hk, rfl, hle, rfl⟩ := hrel
    by_cases hlt : k < n
    · obtain ⟨b, off, rfl, hb, hc⟩ := hp.at (k := k) hlt
      have hcell := (hc k hlt).2
      have hsk := hkz _ (mem_getDE (ps := ps) (k := k) (by rw [← Hn.out]; exact hlt))
      have hsn : Hid (lens ((keys ps).take (k + 1)) = lens ((keys ps).take k) + (ps.getD k dE).2.size) := keys_succ ps k (by rw [← Hn.out]; exact hlt)
      generalize (ps.getD k dE).2 = s at hcell hsk hsn
      generalize hL : lens ((keys ps).take k) = L at hle hsn ⊢
      clear hc hp hkz hL hs hsz
      go_wp2
      · go_ret; exact .no
      · go_ret; exact .no
      · go_round
        case rel => exact ⟨k + 1, by omega, by go_num, by rw [hsn.out]; omega, by rw [hsn.out]; go_num⟩
        case measure => simp [intOf]; omega
    · have hkn : k = n := by omega
      subst hkn
      have hall : Hid ((keys ps).take k = keys ps) := by unfold Hid; rw [Hn.out, ← keys_len]; exact List.take_length
      rw [hall.out] at hle ⊢
      generalize hL : lens (keys ps) = L at hle ⊢
      clear hall hp hkz
      by_cases hbig2 : (1048576 : Int) < n2
      · go_wp2
        go_ret
        exact .no
      by_cases hbig3 : (1048576 : Int) < (k : Int) + (L : Int) + (n2 : Int)
      · go_wp2
        go_ret
        exact .no
      go_wp2
      go_loop [5, 7] (fun t i => ∃ j : Nat, j ≤ n2 ∧ i = .int .i64 j ∧ k + L + n2 + lens ((keys qs).take j) ≤ 1048576 ∧ t = .int .i64 (k + L + n2 + lens ((keys qs).take j) : Nat)) (fun _ i => n2 - (intOf i).toNat)
      case atStart => exact ⟨0, Nat.zero_le _, rfl, by simp [lens]; omega, by simp [lens]⟩
      case round =>
        obtain ⟨j, hj, rfl, hle2, rfl⟩ := hrel
        by_cases hlt2 : j < n2
        · obtain ⟨b, off, rfl, hb, hc⟩ := hs.at (k := j) hlt2
          have hcell := (hc j hlt2).2
          have hsk := hsz _ (mem_getDE (ps := qs) (k := j) (by rw [← Hn2.out]; exact hlt2))
          have hsn : Hid (lens ((keys qs).take (j + 1)) = lens ((keys qs).take j) + (qs.getD j dE).2.size) := keys_succ qs j (by rw [← Hn2.out]; exact hlt2)
          generalize (qs.getD j dE).2 = s at hcell hsk hsn
          generalize hL2 : lens ((keys qs).take j) = L2 at hle2 hsn ⊢
          clear hc hs hsz hL2
          go_wp2
          · go_ret; exact .no
          · go_ret; exact .no
          · go_round
            case rel => exact ⟨j + 1, by omega, by go_num, by rw [hsn.out]; omega, by rw [hsn.out]; go_num⟩
            case measure => simp [intOf]; omega
        · have hjn : j = n2 := by omega
          subst hjn
          have hall : Hid ((keys qs).take j = keys qs) := by unfold Hid; rw [Hn2.out, ← keys_len]; exact List.take_length
          go_wp2
          go_ret
          rw [hall.out] at hle2
          exact .yes ⟨by omega, by omega, by omega, by omega⟩

end Go.Proofs.Qxb6605849a
