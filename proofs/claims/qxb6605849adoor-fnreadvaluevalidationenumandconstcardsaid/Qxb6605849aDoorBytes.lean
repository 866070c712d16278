import Derived.Test.Qxb6605849aDoorVals
namespace Go.Proofs.Qxb6605849aDoor
open Go.RowKit Go.Maps

/-- A guard's answer: some bool; where it is true p holds; nothing old has turned. -/
def GuardPost (w : World) (p : Prop) (e : Ending) (w' : World) : Prop := ∃ b, e = .returned (.bool b) ∧ Only nothing w w' ∧ (b = true → p)
theorem GuardPost.no {w w' : World} {p : Prop} (h : Only nothing w w') : GuardPost w p (.returned (.bool false)) w' := ⟨false, rfl, h, fun h => by cases h⟩
theorem GuardPost.yes {w w' : World} {p : Prop} (hw : Only nothing w w') (h : p) : GuardPost w p (.returned (.bool true)) w' := ⟨true, rfl, hw, fun _ => h⟩

set_option maxHeartbeats 1000000 in
set_option maxRecDepth 100000 in
theorem bytes4 (d : Int) (he hc : Bool) (a : Option Addr) (n c : Nat) (tt : Nat → Bool) (xx : Nat → ByteArray) (ff : Nat → Nat) (s : ByteArray) (ct : Bool) (cx : ByteArray) (cf : Nat) (w : World) (hp : ValsAt w a n tt xx ff)
    (hxx : ∀ i, i < n → (xx i).size ≤ 9223372036854775807) (hs : s.size ≤ 9223372036854775807) (hcx : cx.size ≤ 9223372036854775807) :
    Calls Tryd.prog 4 #[.int .i16 d, .bool he, .slice a n c, .string s, .bool hc, .agg #[.bool ct, .string cx, .float .f64 cf]] w (GuardPost w (n ≤ 1048576 ∧ sums xx n ≤ 1048576 ∧ s.size ≤ 1048576 ∧ cx.size ≤ 1048576)) := by
  have ho := (Only.refl nothing w).alloc (.cells #[.bool ct, .string cx, .float .f64 cf] 26)
  by_cases hbig : (1048576 : Int) < n
  · go_enter Tryd.func4, Tryd.ntmps4
    go_wp2
    go_ret
    exact .no ho
  go_enter Tryd.func4, Tryd.ntmps4
  go_wp2
  go_loop [13, 14] (fun t i => ∃ k : Nat, k ≤ n ∧ i = .int .i64 k ∧ n + sums xx k ≤ 1048576 ∧ t = .int .i64 (n + sums xx k : Nat)) (fun _ i => n - (intOf i).toNat)
  case atStart => exact ⟨0, Nat.zero_le _, rfl, by simp [sums]; omega, by simp [sums]⟩
  case round =>
    obtain ⟨k, hk, rfl, hle, rfl⟩ := hrel
    by_cases hlt : k < n
    · obtain ⟨b, off, rfl, hb, hcl⟩ := hp.at (k := k) hlt
      have hcell := (hcl k hlt).2.1
      have hsk := hxx k hlt
      have hsn : Hid (sums xx (k + 1) = sums xx k + (xx k).size) := rfl
      generalize xx k = t at hcell hsk hsn
      generalize hL : sums xx k = L at hle hsn ⊢
      clear hcl hp hxx hL
      go_wp2
      · go_ret; exact .no ho
      · go_ret; exact .no ho
      · go_round
        case rel => exact ⟨k + 1, by omega, by go_num, by rw [hsn.out]; omega, by rw [hsn.out]; go_num⟩
        case measure => simp [intOf]; omega
    · have hkn : k = n := by omega
      subst hkn
      generalize hL : sums xx k = L at hle ⊢
      have HL : Hid (sums xx k = L) := hL
      clear hp hxx hL
      by_cases h1 : (1048576 : Int) < s.size
      · go_wp2
        go_ret
        exact .no ho
      by_cases h2 : (1048576 : Int) < (k : Int) + (L : Int) + (s.size : Int)
      · go_wp2
        go_ret
        exact .no ho
      by_cases h3 : (1048576 : Int) < cx.size
      · go_wp2
        go_ret
        exact .no ho
      by_cases h4 : (1048576 : Int) < (k : Int) + (L : Int) + (s.size : Int) + (cx.size : Int)
      · go_wp2
        go_ret
        exact .no ho
      go_wp2
      go_ret
      exact .yes ho ⟨by omega, by rw [HL.out]; omega, by omega, by omega⟩

end Go.Proofs.Qxb6605849aDoor
