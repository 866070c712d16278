import Derived.Test.Qxb6605849aBase
namespace Go.Proofs.Qxb6605849a
open Go.RowKit Go.Maps

theorem mem_getD {ss : List ByteArray} {k : Nat} (hk : k < ss.length) : ss.getD k ByteArray.empty ∈ ss := by
  rw [List.getD, List.getElem?_eq_getElem hk]; exact List.getElem_mem hk

/-- A guard's answer: some bool; where it is true p holds; the world stands. -/
def GuardPost (w : World) (p : Prop) (e : Ending) (w' : World) : Prop := ∃ b, e = .returned (.bool b) ∧ w' = w ∧ (b = true → p)
theorem GuardPost.no {w : World} {p : Prop} : GuardPost w p (.returned (.bool false)) w := ⟨false, rfl, rfl, fun h => by cases h⟩
theorem GuardPost.yes {w : World} {p : Prop} (h : p) : GuardPost w p (.returned (.bool true)) w := ⟨true, rfl, rfl, fun _ => h⟩

set_option maxHeartbeats 400000 in
theorem bytes7 (a : Option Addr) (n c : Nat) (ss : List ByteArray) (x : Bool) (u : Int) (w : World) (hs : StrsAt w a ss) (hn : n = ss.length) (hsz : ∀ s ∈ ss, s.size ≤ 9223372036854775807) :
    Calls Try.prog 7 #[.slice a n c, .bool x, .int .i64 u] w (GuardPost w (n ≤ 1048576 ∧ lens ss ≤ 1048576)) := by
  have Hn : Hid (n = ss.length) := hn
  clear hn
  by_cases hbig : (1048576 : Int) < n
  · go_enter Try.func7, Try.ntmps7
    go_wp2
    go_ret
    exact .no
  go_enter Try.func7, Try.ntmps7
  go_wp2
  go_loop [7, 8] (fun t i => ∃ k : Nat, k ≤ n ∧ i = .int .i64 k ∧ n + lens (ss.take k) ≤ 1048576 ∧ t = .int .i64 (n + lens (ss.take k) : Nat)) (fun _ i => n - (intOf i).toNat)
  case atStart => exact ⟨0, Nat.zero_le _, rfl, by simp [lens]; omega, by simp [lens]⟩
  case round =>
    obtain ⟨k, hk, rfl, hle, rfl⟩ := hrel
    by_cases hlt : k < n
    · obtain ⟨b, off, rfl, hb, hc⟩ := hs.at (k := k) (by rw [← Hn.out]; exact hlt)
      have hcell := hc k (by rw [← Hn.out]; exact hlt)
      have hsk := hsz _ (mem_getD (ss := ss) (k := k) (by rw [← Hn.out]; exact hlt))
      have hsn : Hid (lens (ss.take (k + 1)) = lens (ss.take k) + (ss.getD k ByteArray.empty).size) := lens_take_succ ss k (by rw [← Hn.out]; exact hlt)
      generalize ss.getD k ByteArray.empty = s at hcell hsk hsn
      generalize hL : lens (ss.take k) = L at hle hsn ⊢
      clear hc hs hsz hL
      go_wp2
      · go_ret; exact .no
      · go_ret; exact .no
      · go_round
        case rel => exact ⟨k + 1, by omega, by go_num, by rw [hsn.out]; omega, by rw [hsn.out]; go_num⟩
        case measure => simp [intOf]; omega
    · have hkn : k = n := by omega
      subst hkn
      have hall : Hid (ss.take k = ss) := by unfold Hid; rw [Hn.out]; exact List.take_length
      go_wp2
      go_ret
      exact .yes ⟨by omega, by rw [hall.out] at hle; omega⟩

end Go.Proofs.Qxb6605849a
