import Derived.Test.Qxb6605849aWk1
import Derived.Deep.OwnRows
namespace Go.Proofs.Qxb6605849a
open Go.RowKit Go.Maps

theorem info9 : (Try.prog.info? 9).map (fun i => (i.zero, i.size, i.bytes)) = some (some (.string ByteArray.empty), 1, 16) := by kernel_rfl

def ClonePost (w : World) (n : Nat) (ss : List ByteArray) (a : Option Addr) (e : Ending) (w' : World) : Prop :=
  ∃ a' c', e = .returned (.slice a' n c') ∧ Only nothing w w' ∧ StrsAt w' a' ss ∧ (a = none → a' = none)

set_option maxHeartbeats 400000 in
theorem clone8 (a : Option Addr) (n c : Nat) (ss : List ByteArray) (w : World) (hs : StrsAt w a ss) (hn : n = ss.length) (hle : n ≤ 1048576) (hnil : a = none → n = 0) :
    Calls Try.prog 8 #[.slice a n c] w (ClonePost w n ss a) := by
  have Hn : Hid (n = ss.length) := hn
  clear hn
  have hq := fun (w : World) (a : Option Addr) (n c : Nat) => Lib.run_eql_slice_nil (P := Try.prog) w 22 9 a n c 0 0 Try.underlying22
  cases a with
  | none =>
    obtain rfl := hnil rfl
    go_enter Try.func8, Try.ntmps8
    go_wp2
    go_ret
    exact ⟨none, 0, rfl, .refl _ _, .inl (List.length_eq_zero_iff.1 Hn.out.symm), fun _ => rfl⟩
  | some ad =>
    have hmk := run_make_row' (P := Try.prog) 22 9 _ 16 Try.underlying22 info9 rfl .i64 .i64 n (by omega) (by omega)
    go_enter Try.func8, Try.ntmps8
    go_wp2
    go_loopw [4] (fun i wr => ∃ k : Nat, k ≤ n ∧ i = .int .i64 k ∧ Only nothing w wr ∧ wr.rowIs w.heap.size 9 n (fun j => .string (if j < k then ss.getD j ByteArray.empty else ByteArray.empty)))
      (fun i _ => n - (intOf i).toNat)
    case atStart => exact ⟨0, Nat.zero_le _, rfl, (Only.refl _ _).alloc _, (World.rowIs_made w _ n 9).congr (fun j _ => by simp)⟩
    case round =>
      obtain ⟨k, hk, rfl, ho, hrow⟩ := hrel
      by_cases hlt : k < n
      · obtain ⟨b, off, hab, hb, hc⟩ := hs.at (k := k) (by rw [← Hn.out]; exact hlt)
        obtain rfl : ad = ⟨b, off, none⟩ := Option.some.inj hab
        have hcell := (ho.cell (p := ⟨b, off + k, none⟩) hb (fun h => h)).trans (hc k (by rw [← Hn.out]; exact hlt))
        obtain ⟨v0, hv0⟩ : ∃ v, wr.cell? ⟨w.heap.size, k, none⟩ = some v := ⟨_, hrow.cell hlt⟩
        have hf0 := hrow.frozen k
        have hrow' := hrow.set k (.string (ss.getD k ByteArray.empty))
        have ho' := ho.setCell (p := ⟨w.heap.size, k, none⟩) (fun h => absurd h (Nat.lt_irrefl _)) (.string (ss.getD k ByteArray.empty))
        generalize hsk : ss.getD k ByteArray.empty = s at hcell hrow' ho'
        have Hsk : Hid (ss.getD k ByteArray.empty = s) := hsk
        clear hsk hs hc hrow ho hnil
        go_wp2
        go_roundw
        case rel =>
          refine ⟨k + 1, by omega, by go_num, ho', hrow'.congr fun j hj => ?_⟩
          by_cases h1 : j = k
          · subst h1; rw [if_pos rfl, if_pos (by omega), Hsk.out]
          · rw [if_neg h1]
            by_cases h2 : j < k
            · rw [if_pos h2, if_pos (by omega)]
            · rw [if_neg h2, if_neg (by omega)]
        case measure => simp [intOf]; omega
      · have hkn : k = n := by omega
        subst hkn
        go_wp2
        go_ret
        refine ⟨_, _, rfl, ho, .inr ⟨w.heap.size, 0, rfl, hrow.lt, fun j hj => ?_⟩, fun h => by cases h⟩
        rw [Nat.zero_add, hrow.cell (by rw [Hn.out]; exact hj), if_pos (by rw [Hn.out]; exact hj)]

end Go.Proofs.Qxb6605849a
